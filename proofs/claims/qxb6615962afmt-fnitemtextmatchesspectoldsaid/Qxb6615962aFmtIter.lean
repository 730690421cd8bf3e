import Derived.Test.Qxb6615962aFmtRange
import Derived.BigRegionIn
namespace Go.Proofs.Qxb6615962aFmt
open Go.RowKit Go.Shelf

attribute [local go_sem] Oper.semAt_some

abbrev Pr (Ok : Int × Int → Prop) : Type := { p : Int × Int // Ok p }
def encP {Ok : Int × Int → Prop} (x : Pr Ok) : Array Value := #[.int .i64 x.1.1, .int .i64 x.1.2]

theorem tabAt_below {n₀ : Nat} {w w' : World} (h : TabAt 0 Lib.deBruijn64tab w) (hb : Below n₀ w w') (h0 : 0 < n₀) : TabAt 0 Lib.deBruijn64tab w' :=
  fun j hj => (hb.cell (p := ⟨0, j, none⟩) h0).trans (h j hj)

theorem xor_max (x : Nat) (hx : x < 18446744073709551616) : bits BinOp.xor IntKind.u64 IntKind.u64.max (x : Int) = ((18446744073709551615 - x : Nat) : Int) := by
  have h : 18446744073709551615 ^^^ x = 18446744073709551615 - x := by
    apply Nat.eq_of_testBit_eq
    intro i
    have h1 := Nat.testBit_two_pow_sub_succ (show x < 2 ^ 64 by omega) i
    rw [show 2 ^ 64 - (x + 1) = 18446744073709551615 - x by omega] at h1
    have h2 := Nat.testBit_two_pow_sub_one 64 i
    rw [show 2 ^ 64 - 1 = 18446744073709551615 by decide] at h2
    rw [Nat.testBit_xor, h1, h2]
    by_cases hi : i < 64
    · rw [decide_eq_true hi]; simp
    · rw [Nat.testBit_lt_two_pow (show x < 2 ^ i from Nat.lt_of_lt_of_le hx (show 18446744073709551616 ≤ 2 ^ i from Nat.pow_le_pow_right (n := 2) (i := 64) (by omega) (by omega)))]
      simp
  show bits BinOp.xor IntKind.u64 ((18446744073709551615 : Nat) : Int) (x : Int) = _
  rw [bits_xor_u64_nat _ _ (by omega) hx, h]

/-- The set without the run. -/
theorem left_bits (t a n : Nat) (ht : t < 18446744073709551616) (han : a + n < 64) : ∃ t' : Nat, bits BinOp.andNot IntKind.u64 (t : Int) ((2 ^ (a + n + 1) - 2 ^ a : Nat) : Int) = (t' : Int) ∧ t' ≤ t ∧ ∀ j, j < 64 → t'.testBit j = (t.testBit j && !(decide (a ≤ j) && decide (j ≤ a + n))) := by
  have h1 : (2 : Nat) ^ (a + n + 1) ≤ 2 ^ 64 := Nat.pow_le_pow_right (by omega) (by omega)
  have h3 : 0 < (2 : Nat) ^ a := Nat.pow_pos (by omega)
  have h2 : (2 : Nat) ^ a ≤ 2 ^ (a + n + 1) := Nat.pow_le_pow_right (by omega) (by omega)
  have h4 : (2 : Nat) ^ 64 = 18446744073709551616 := by decide
  have hm := mask_bits a n
  have hR : 2 ^ (a + n + 1) - 2 ^ a < 18446744073709551616 := by omega
  generalize (2 : Nat) ^ (a + n + 1) - 2 ^ a = R at hm hR ⊢
  refine ⟨t &&& (18446744073709551615 - R), u64_andNot_nat t R ht hR, Nat.and_le_left, fun j hj => ?_⟩
  have h5 := Nat.testBit_two_pow_sub_succ (show R < 2 ^ 64 by omega) j
  rw [show 2 ^ 64 - (R + 1) = 18446744073709551615 - R by omega] at h5
  rw [Nat.testBit_and, h5, hm j, decide_eq_true hj, Bool.true_and]

set_option maxRecDepth 100000 in
set_option maxHeartbeats 2000000 in
theorem runs_gives (Ok : Int × Int → Prop) (s : Nat) (hs : s < 18446744073709551616) (h32 : s.testBit 32 = false) (hok : ∀ p ∈ groups (valsFrom s 0), Ok p) (n₀ : Nat) (w0 : World) (h0 : 0 < n₀) (hn : n₀ ≤ w0.heap.size) (hT : TabAt 0 Lib.deBruijn64tab w0) :
    Gives 24 #[.int .u64 s] (encP (Ok := Ok)) n₀ (fun xs => xs.map (·.1) = groups (valsFrom s 0)) (groups (valsFrom s 0)).length w0 := by
  intro l J W hW hJ hY hJ0
  have hTW : TabAt 0 Lib.deBruijn64tab W := tabAt_below hT hW (by omega)
  have HY : Hid (∀ pre x W1, J pre W1 → pre.length < (groups (valsFrom s 0)).length → YieldAt Fence.wide 3 Tryf.prog l (encP (Ok := Ok) x) W1 fun e W' => e = .returned (.bool true) ∧ J (pre ++ [x]) W' ∧ Kr n₀ W1 W') := hY
  have HT : Hid (∀ wr, Kr n₀ W wr → TabAt 0 Lib.deBruijn64tab wr) := fun wr hk => tabAt_below hTW hk.1 h0
  clear hY hT hTW hJ hW
  refine callsIn_of_wp Tryf.func24 rfl trivial ?_ rfl
  simp only [Tryf.ntmps24, List.size_toArray, List.length_cons, List.length_nil, Nat.reduceAdd, Nat.reduceSub, Array.replicate_succ, Array.replicate_zero, List.push_toArray, List.append_toArray, List.nil_append, List.cons_append]
  gi_wp2
  gi_loopw [0] (fun v wr => ∃ (t : Nat) (pre : List (Pr Ok)), v = .int .u64 t ∧ t < 18446744073709551616 ∧ t.testBit 32 = false ∧ pre.map (·.1) ++ groups (valsFrom t 0) = groups (valsFrom s 0) ∧ J pre wr ∧ Kr n₀ W wr)
    (fun v _ => (intOf v).toNat)
  case atStart => exact ⟨s, [], rfl, hs, h32, rfl, hJ0, Kr.refl _ _⟩
  case round =>
    obtain ⟨t, pre, rfl, ht, ht32, hgr, hJs, hK⟩ := hrel
    have HG : Hid (t.testBit 32 = false ∧ pre.map (·.1) ++ groups (valsFrom t 0) = groups (valsFrom s 0) ∧ J pre wr ∧ Kr n₀ W wr) := ⟨ht32, hgr, hJs, hK⟩
    clear ht32 hgr hJs hK h32 hs
    by_cases ht0 : t = 0
    · subst ht0
      gi_wp2
      go_end0
      obtain ⟨_, hgr, hJs, _⟩ := HG.out
      refine ⟨⟨_, rfl⟩, pre, ?_, hJs⟩
      have : valsFrom 0 0 = [] := by decide
      rw [this] at hgr
      simpa [groups] using hgr
    · have hpos : (t : Int) ≠ 0 := by omega
      have hcz := ctz_bits t ht0 ht
      have hrb := rest_bits t (Lib.ctz 64 t) ht HG.out.1
      have htab := HT.out wr HG.out.2.2.2
      have HTZ := tz_any t ht wr htab
      obtain ⟨a, ha⟩ : ∃ a, Lib.ctz 64 t = a := ⟨_, rfl⟩
      rw [ha] at hcz hrb HTZ
      have HTZ2 := tz_any (18446744073709551615 - t / 2 ^ a) (Nat.lt_of_le_of_lt (Nat.sub_le _ _) (by omega)) wr htab
      obtain ⟨c, hc⟩ : ∃ c, Lib.ctz 64 (18446744073709551615 - t / 2 ^ a) = c := ⟨_, rfl⟩
      rw [hc] at hrb HTZ2
      obtain ⟨n, rfl⟩ : ∃ n, c = n + 1 := by
        cases c with
        | zero => have h1 := hrb.2.2; rw [Nat.add_zero, hcz.2.2] at h1; cases h1
        | succ n => exact ⟨n, rfl⟩
      have ha64 := hcz.1
      have han : a + n < 64 := by
        rcases Nat.lt_or_ge (a + n) 64 with h | h
        · exact h
        · have h1 := hrb.2.1 n (by omega)
          rw [Nat.testBit_lt_two_pow (Nat.lt_of_lt_of_le ht (show 18446744073709551616 ≤ 2 ^ (a + n) from Nat.pow_le_pow_right (n := 2) (i := 64) (by omega) h))] at h1
          cases h1
      have H1 : Hid (Calls Tryf.prog 37 _ _ _) := HTZ
      have H2 : Hid (Calls Tryf.prog 37 _ _ _) := HTZ2
      have HB : Hid ((a < 64 ∧ (∀ j, j < a → t.testBit j = false) ∧ t.testBit a = true) ∧ (n + 1 < 64 ∧ (∀ j, j < n + 1 → t.testBit (a + j) = true) ∧ t.testBit (a + (n + 1)) = false)) := ⟨hcz, hrb⟩
      clear HTZ HTZ2 hcz hrb ha hc htab
      gi_wp2_with fail
      refine ⟨trivial, ?_⟩
      refine (callsIn_wide.2 H1.out).mono ?_
      rintro e w' ⟨rfl, rfl⟩
      gi_wp2_with fail
      refine ⟨trivial, ?_⟩
      rw [show ((t : Int) / 2 ^ a) = ((t / 2 ^ a : Nat) : Int) by simp, xor_max _ (Nat.lt_of_le_of_lt (Nat.div_le_self _ _) ht)]
      refine (callsIn_wide.2 H2.out).mono ?_
      rintro e w' ⟨rfl, rfl⟩
      gi_wp2_with fail
      refine ⟨trivial, ?_⟩
      refine (callsIn_wide.2 (valueOf_any a ha64 wr)).mono ?_
      rintro e w' ⟨rfl, rfl⟩
      gi_wp2_with fail
      refine ⟨trivial, ?_⟩
      rw [show (a : Int) + ((n : Int) + 1) - 1 = ((a + n : Nat) : Int) by omega]
      refine (callsIn_wide.2 (valueOf_any (a + n) han wr)).mono ?_
      rintro e w' ⟨rfl, rfl⟩
      gi_wp2_with fail
      refine ⟨trivial, ?_⟩
      refine (callsIn_wide.2 (valueRange_any a n han wr)).mono ?_
      rintro e w' ⟨rfl, rfl⟩
      obtain ⟨t', ht', htle, htb⟩ := left_bits t a n ht han
      have hgf := groups_first t t' a n HG.out.1 han HB.out.1.2.1 (fun j h1 h2 => by have := HB.out.2.2.1 (j - a) (by omega); rwa [show a + (j - a) = j by omega] at this) (fun _ => by have := HB.out.2.2.2; rwa [show a + (n + 1) = a + n + 1 by omega] at this) htb
      have hgr := HG.out.2.1
      rw [hgf] at hgr
      have hmem : Ok (vo a, vo (a + n)) := hok _ (by rw [← hgr]; simp)
      have hlen : pre.length < (groups (valsFrom s 0)).length := by rw [← hgr]; simp
      obtain ⟨fn, tmps, assign, body, hyy, hR⟩ := HY.out pre ⟨(vo a, vo (a + n)), hmem⟩ wr HG.out.2.2.1 hlen
      have hlt' : t' < t := by
        rcases Nat.lt_or_ge t' t with h | h
        · exact h
        · have h1 := htb a ha64
          rw [show t' = t by omega, HB.out.1.2.2, decide_eq_true (Nat.le_refl a), decide_eq_true (show a ≤ a + n by omega)] at h1
          cases h1
      have h32' : t'.testBit 32 = false := by rw [htb 32 (by omega), HG.out.1]; rfl
      have HE : Hid ((pre ++ [(⟨(vo a, vo (a + n)), hmem⟩ : Pr Ok)]).map (·.1) ++ groups (valsFrom t' 0) = groups (valsFrom s 0) ∧ t'.testBit 32 = false ∧ t' < t) := ⟨by rw [← hgr]; simp, h32', hlt'⟩
      have HR : Hid (RoundIn _ _ _ _ _ _ _ _ _ _) := hR
      dsimp only [encP] at hyy
      clear htb hgf hgr hlen hlt' h32' hR htle
      have HA : Hid (bits BinOp.andNot IntKind.u64 (t : Int) ((2 ^ (a + n + 1) - 2 ^ a : Nat) : Int) = (t' : Int)) := ht'
      have hint : ((bits BinOp.andNot IntKind.u64 (t : Int) ((2 ^ (a + n + 1) - 2 ^ a : Nat) : Int)).toNat) < t := by rw [ht']; have := HE.out.2.2; omega
      have HI : Hid (((bits BinOp.andNot IntKind.u64 (t : Int) ((2 ^ (a + n + 1) - 2 ^ a : Nat) : Int)).toNat) < t) := hint
      clear ht' hint
      gi_wp2_with fail
      refine HR.out.mono ?_
      rintro e W3 ⟨rfl, hJ3, hk3⟩
      gi_wp2
      go_roundw
      case rel => exact ⟨t', _, by rw [HA.out], by have := HE.out.2.2; omega, HE.out.2.1, HE.out.1, hJ3, HG.out.2.2.2.trans hk3⟩
      case measure => simp only [intOf]; have := HI.out; simpa using this
end Go.Proofs.Qxb6615962aFmt
