import Derived.Test.Qxb6615962aFmtPlain
import Derived.Shelf.Spec.TrailingZeros
import Derived.Laws.BitsAllLaws
namespace Go.Proofs.Qxb6615962aFmt
open Go.RowKit

theorem ret_int {k : IntKind} {a b : Int} (h : a = b) : Ending.returned (.int k a) = .returned (.int k b) := by rw [h]
theorem ret_bool {a b : Bool} (h : a = b) : Ending.returned (.bool a) = .returned (.bool b) := by rw [h]

theorem maskv (v : Int) : bits .and .u64 (IntKind.u64.wrap v) 63 = v % 64 := by
  rw [IntKind.wrap_u64, u64_and _ _ (by omega) (by omega) (by omega) (by omega)]
  rw [show (63 : Int).toNat = 63 from rfl, nat_mask6]
  omega

theorem bitOf_any (v : Int) (w : World) :
    Calls Tryf.prog 35 #[.int .i64 v] w fun e w' => e = .returned (.int .u64 (v % 64)) ∧ w = w' := by
  go_enter Tryf.func35, Tryf.ntmps35
  go_wp2
  go_ret
  exact ⟨ret_int (maskv v), rfl⟩

theorem has_form (s : Nat) (hs : s < 18446744073709551616) (k : Nat) (hk : k < 64) : (bits .and .u64 (s : Int) (IntKind.u64.wrap (2 ^ k)) != 0) = s.testBit k := by
  have h2 : (2 : Nat) ^ k < 2 ^ 64 := Nat.pow_lt_pow_right (by omega) hk
  have h3 : ((2 : Int) ^ k) = ((2 ^ k : Nat) : Int) := by simp
  have h4 : (2 : Nat) ^ 64 = 18446744073709551616 := by decide
  have h5 : 0 < (2 : Nat) ^ k := Nat.pow_pos (by omega)
  rw [IntKind.wrap_u64, h3, Int.emod_eq_of_lt (by omega) (by omega), u64_and _ _ (by omega) (by omega) (by omega) (by omega), Int.toNat_natCast, Int.toNat_natCast, nat_bit, Nat.testBit_eq_decide_div_mod_eq]
  rcases Nat.mod_two_eq_zero_or_one (s / 2 ^ k) with h | h
  · rw [h]; simp
  · rw [h, show ((((1 * 2 ^ k : Nat) : Int)) != 0) = true from bne_iff_ne.2 (by omega)]; rfl

theorem has_any (s k : Nat) (w : World) (hs : s < 18446744073709551616) (hk : k < 64) :
    Calls Tryf.prog 21 #[.int .u64 s, .int .i64 k] w fun e w' => e = .returned (.bool (s.testBit k)) ∧ w = w' := by
  go_enter Tryf.func21, Tryf.ntmps21
  go_wp2_with fail
  refine (bitOf_any _ w).mono ?_
  rintro e w' ⟨rfl, rfl⟩
  rw [show (k : Int) % 64 = k by omega]
  go_wp2
  go_ret
  exact ⟨ret_bool (has_form s hs k hk), rfl⟩

theorem valueOf_any (j : Nat) (hj : j < 64) (w : World) :
    Calls Tryf.prog 38 #[.int .i64 j] w fun e w' => e = .returned (.int .i64 (vo j)) ∧ w = w' := by
  by_cases h : 32 < j
  · rw [vo, if_pos h]
    go_enter Tryf.func38, Tryf.ntmps38
    go_wp2
    go_ret
    exact ⟨rfl, rfl⟩
  · rw [vo, if_neg h]
    go_enter Tryf.func38, Tryf.ntmps38
    go_wp2
    go_ret
    exact ⟨rfl, rfl⟩

theorem vo_mod (j : Nat) (hj : j < 64) : vo j % 64 = j := by unfold vo; split <;> omega

theorem range_form (a n : Nat) (han : a + n < 64) : IntKind.u64.wrap (IntKind.u64.wrap (2 * 2 ^ (a + n)) - IntKind.u64.wrap (2 ^ a)) = ((2 ^ (a + n + 1) - 2 ^ a : Nat) : Int) := by
  have h1 : (2 : Nat) ^ (a + n + 1) ≤ 2 ^ 64 := Nat.pow_le_pow_right (by omega) (by omega)
  have h2 : (2 : Nat) ^ a ≤ 2 ^ (a + n + 1) := Nat.pow_le_pow_right (by omega) (by omega)
  have h3 : 0 < (2 : Nat) ^ a := Nat.pow_pos (by omega)
  have h4 : (2 : Nat) ^ 64 = 18446744073709551616 := by decide
  have e1 : (2 : Int) * 2 ^ (a + n) = ((2 ^ (a + n + 1) : Nat) : Int) := by rw [Nat.pow_succ, Nat.mul_comm]; simp
  have e2 : (2 : Int) ^ a = ((2 ^ a : Nat) : Int) := by simp
  rw [e1, e2]
  generalize (2 : Nat) ^ (a + n + 1) = X at *
  generalize (2 : Nat) ^ a = Y at *
  rw [IntKind.wrap_u64, IntKind.wrap_u64, IntKind.wrap_u64]
  omega

theorem valueRange_any (a n : Nat) (han : a + n < 64) (w : World) :
    Calls Tryf.prog 33 #[.int .i64 (vo a), .int .i64 (vo (a + n))] w fun e w' => e = .returned (.int .u64 ((2 ^ (a + n + 1) - 2 ^ a : Nat) : Int)) ∧ w = w' := by
  go_enter Tryf.func33, Tryf.ntmps33
  go_wp2_with fail
  refine (bitOf_any _ w).mono ?_
  rintro e w' ⟨rfl, rfl⟩
  rw [vo_mod _ han]
  go_wp2_with fail
  refine (bitOf_any _ w).mono ?_
  rintro e w' ⟨rfl, rfl⟩
  rw [vo_mod _ (by omega)]
  go_wp2
  go_ret
  exact ⟨ret_int (range_form a n han), rfl⟩

set_option maxHeartbeats 1000000 in
theorem tz_core (x k idx : Nat) (w : World) (hx0 : ((x : Int) == 0) = false)
    (key : IntKind.u64.wrap (bits BinOp.and IntKind.u64 (x : Int) (IntKind.u64.wrap (-(x : Int))) * 285870213051353865) / 288230376151711744 = (idx : Int))
    (hi : idx < 64) (hk : k < 64) (hcell : w.cell? ⟨0, idx, none⟩ = some (.int .u8 k)) :
    Calls Tryf.prog 37 #[.int .u64 x] w fun e w' => e = .returned (.int .i64 k) ∧ w = w' := by
  go_enter Tryf.func37, Tryf.ntmps37
  go_wp2_with (simp only [key])
  go_ret
  exact ⟨rfl, rfl⟩

theorem tz_any (x : Nat) (hx : x < 18446744073709551616) (w : World) (hT : TabAt 0 Lib.deBruijn64tab w) :
    Calls Tryf.prog 37 #[.int .u64 x] w fun e w' => e = .returned (.int .i64 (Lib.ctz 64 x)) ∧ w = w' := by
  by_cases hx0 : x = 0
  · subst hx0
    rw [show Lib.ctz 64 0 = 64 from rfl]
    go_enter Tryf.func37, Tryf.ntmps37
    go_wp2
    go_ret
    exact ⟨rfl, rfl⟩
  · obtain ⟨hlow, hk⟩ := Lib.lowest_bit 64 x hx0 hx
    obtain ⟨hi, htab⟩ := Lib.deBruijn64_at _ hk
    have hcell := hT _ hi
    rw [htab] at hcell
    exact tz_core x _ _ w (by simp; omega) (tz64_key x _ hx hx0 hlow) hi hk hcell
end Go.Proofs.Qxb6615962aFmt
