import Derived.Test.Qxb6615962aFmtRuns
import Derived.Laws.Bits64b
namespace Go.Proofs.Qxb6615962aFmt
open Go.RowKit

/-- The slice v owns a row of the numbers xs, in a block from B on. -/
def Ints (B : Nat) (v : Value) (xs : List Int) (w : World) : Prop := w.ownsRow B 3 1 v xs.length (xs.map (Value.int .i64)) ∧ B ≤ w.heap.size

theorem info3 : (Tryf.prog.info? 3).map (fun i => (i.zero, i.size, i.bytes)) = some (some (.int .i64 0), 1, 8) := by kernel_rfl

theorem Ints.vals {B : Nat} {v : Value} {xs : List Int} {w : World} (h : Ints B v xs w) : Vals v xs w := by
  rcases h.1.2 with ⟨rfl, hn⟩ | ⟨g, cap, cur, rfl, _, hh, _, _, _, ht⟩
  · exact ⟨none, 0, by rw [hn], fun h0 => absurd h0 (by omega)⟩
  · refine ⟨_, cap, rfl, fun _ => ⟨g, cur, (0, 0), rfl, hh, fun j hj => ?_⟩⟩
    rw [← Array.getElem?_toList, ← List.getElem?_take_of_lt (show j < xs.length * 1 by omega), ht, List.getElem?_map, List.getElem?_eq_getElem hj, getD_eq hj]
    rfl

theorem Ints.nil (B : Nat) (w : World) (hB : B ≤ w.heap.size) : Ints B (.slice none 0 0) [] w := ⟨World.ownsRow_nil _ _ _ _, hB⟩

theorem Ints.drewN {B : Nat} {v : Value} {xs : List Int} {w : World} (h : Ints B v xs w) (n : Nat) : Ints B v xs (w.drewN n) := h

section
variable {ops : Array Oper} {rest : List Oper} {o : Oper} {a : Act} {Q : Exit → Act → World → Prop}

/-- append(vals, x). -/
theorem wpList_app_int (hgd : o.guard = none) (s x : Operand) (ho : o.op = .call { callee := .builtin .append, args := #[s, x], argTypes := #[52, 52] })
    (B : Nat) (v : Value) (xs : List Int) (y : Int) (w0 : World) (hs : a.eval s = v) (hb : Ints B v xs w0)
    (hx : a.eval x = .slice (some ⟨w0.heap.size, 0, none⟩) 1 1) (hlen : xs.length + 1 ≤ 100000)
    (h : ∀ v' w', Ints B v' (xs ++ [y]) w' → Below B w0 w' → wpList Tryf.prog ops Q rest (a.put o.dst v') w') : wpList Tryf.prog ops Q (o :: rest) a (w0.alloc (.cells #[.int .i64 y] 3)) := by
  obtain ⟨i0, hi, hz0, hz1, hz2⟩ := info_parts info3
  have hsz : B ≤ (w0.alloc (.cells #[.int .i64 y] 3)).heap.size := Nat.le_trans hb.2 ((Below.refl 0 w0).alloc (Nat.zero_le _) _).size
  refine wpList_append_own _ hgd s x 52 ho B 3 i0 (.int .i64 0) 1 8 Tryf.underlying52 hi hz0 hz1 hz2 rfl (by decide) v xs.length _ hs (hb.1.alloc _) ⟨w0.heap.size, 0, none⟩ 1 1 [.int .i64 y] hx rfl ?_ ?_ (by unfold maxLen; omega) (by omega) hsz ?_
  · intro j u hj
    match j, hj with
    | 0, hj => simp at hj; subst hj; simp [Addr.add]
    | (j + 1), hj => simp at hj
  · intro u hu; simp at hu; subst hu; rfl
  · intro v' w' ho' hg _
    refine h v' w' ⟨by rw [List.map_append, List.length_append]; exact ho', Nat.le_trans hsz hg.size⟩ ?_
    exact ((Below.refl B w0).alloc hb.2 _).grown hg hsz (fun k hk => (hb.1.lt k hk).1)
end

def lowV (s b : Nat) : List Int := ((List.range b).filter s.testBit).map Int.ofNat
def highV (s b : Nat) : List Int := ((List.range b).filter fun i => s.testBit (33 + i)).map fun i : Nat => (i : Int) - 31
/-- The values of a set: first 0 to 31, then -31 to -1. -/
def valsOf (s : Nat) : List Int := lowV s 32 ++ highV s 31

theorem lowV_succ (s b : Nat) : lowV s (b + 1) = if s.testBit b then lowV s b ++ [(b : Int)] else lowV s b := by
  unfold lowV
  rw [List.range_succ, List.filter_append]
  split <;> rename_i h <;> simp [h]
theorem highV_succ (s b : Nat) : highV s (b + 1) = if s.testBit (33 + b) then highV s b ++ [(b : Int) - 31] else highV s b := by
  unfold highV
  rw [List.range_succ, List.filter_append]
  split <;> rename_i h <;> simp [h]
theorem lowV_len (s b : Nat) : (lowV s b).length ≤ b := by
  unfold lowV; rw [List.length_map]; exact Nat.le_trans (List.length_filter_le _ _) (by simp)
theorem highV_len (s b : Nat) : (highV s b).length ≤ b := by
  unfold highV; rw [List.length_map]; exact Nat.le_trans (List.length_filter_le _ _) (by simp)

theorem bit_form (s b : Nat) (hs : s < 18446744073709551616) : (bits BinOp.and IntKind.u64 ((s : Int) / 2 ^ b) 1 == 1) = s.testBit b := by
  have h1 : (s : Int) / 2 ^ b = ((s / 2 ^ b : Nat) : Int) := by push_cast; rfl
  have h2 : s / 2 ^ b < 18446744073709551616 := Nat.lt_of_le_of_lt (Nat.div_le_self _ _) hs
  rw [h1, show (1 : Int) = ((1 : Nat) : Int) from rfl, bits_and_u64_nat _ 1 h2 (by omega), Nat.and_one_is_mod, Nat.testBit_eq_decide_div_mod_eq]
  by_cases h : s / 2 ^ b % 2 = 1
  · simp [h]
  · have h0 : s / 2 ^ b % 2 = 0 := by omega
    simp [h0]

set_option maxRecDepth 100000 in
set_option maxHeartbeats 2000000 in
theorem setValues_any (s : Nat) (hs : s < 18446744073709551616) (w : World) :
    Calls Tryf.prog 16 #[.int .u64 s] w fun e w' => ∃ v, e = .returned v ∧ Vals v (valsOf s) w' ∧ Below w.heap.size w w' := by
  go_enter Tryf.func16, Tryf.ntmps16
  go_wp2
  go_loopw [3, 4] (fun v j wr => ∃ (b : Nat), j = .int .i64 b ∧ b ≤ 32 ∧ Ints w.heap.size v (lowV s b) wr ∧ Below w.heap.size w wr) (fun _ j _ => 32 - (intOf j).toNat)
  case atStart => exact ⟨0, rfl, by omega, Ints.nil _ _ (Nat.le_refl _), Below.refl _ _⟩
  case round =>
    obtain ⟨b, rfl, hb, hi, hbel⟩ := hrel
    by_cases hlt : b < 32
    · have hL := lowV_len s b
      have hform := bit_form s b hs
      have hsucc := lowV_succ s b
      cases hbit : s.testBit b
      · rw [hbit] at hform hsucc
        have HS : Hid (lowV s (b + 1) = lowV s b) := hsucc
        clear hsucc hbit
        go_wp2
        go_roundw
        case rel => exact ⟨b + 1, by go_num, by omega, by rw [HS.out]; exact hi, hbel⟩
        case measure => simp [intOf] <;> omega
      · rw [hbit] at hform hsucc
        have HS : Hid (lowV s (b + 1) = lowV s b ++ [(b : Int)]) := hsucc
        clear hsucc hbit
        go_wp2_with (at_builtin; refine wpList_app_int rfl _ _ rfl w.heap.size u3 (lowV s b) b wr rfl hi rfl (by omega) ?_; intro v' w' hi' hb')
        go_roundw
        case rel => exact ⟨b + 1, by go_num, by omega, by rw [HS.out]; exact hi', hbel.trans hb'⟩
        case measure => simp [intOf] <;> omega
    · obtain rfl : b = 32 := by omega
      go_wp2
      go_loopw [3, 5] (fun v j wr => ∃ (b : Nat), j = .int .i64 (33 + b : Nat) ∧ b ≤ 31 ∧ Ints w.heap.size v (lowV s 32 ++ highV s b) wr ∧ Below w.heap.size w wr) (fun _ j _ => 64 - (intOf j).toNat)
      case atStart => exact ⟨0, rfl, by omega, by simpa [highV] using hi, hbel⟩
      case round =>
        clear hi hbel
        obtain ⟨b, rfl, hb, hi, hbel⟩ := hrel
        by_cases hlt : b < 31
        · have hL := lowV_len s 32
          have hL2 := highV_len s b
          have hform := bit_form s (33 + b) hs
          have hsucc := highV_succ s b
          cases hbit : s.testBit (33 + b)
          · rw [hbit] at hform hsucc
            have HS : Hid (highV s (b + 1) = highV s b) := hsucc
            clear hsucc hbit
            go_wp2
            go_roundw
            case rel => exact ⟨b + 1, by go_num, by omega, by rw [HS.out]; exact hi, hbel⟩
            case measure => simp [intOf] <;> omega
          · rw [hbit] at hform hsucc
            have HS : Hid (highV s (b + 1) = highV s b ++ [33 + (b : Int) - 64]) := by rw [show 33 + (b : Int) - 64 = (b : Int) - 31 by omega]; exact hsucc
            clear hsucc hbit
            go_wp2_with (at_builtin; refine wpList_app_int rfl _ _ rfl w.heap.size u3 (lowV s 32 ++ highV s b) (33 + (b : Int) - 64) wr rfl hi rfl (by rw [List.length_append]; omega) ?_; intro v' w' hi' hb')
            go_roundw
            case rel =>
              have R : ∃ b' : Nat, Value.int .i64 (33 + (b : Int) + 1) = .int .i64 (33 + b' : Nat) ∧ b' ≤ 31 ∧ Ints w.heap.size v' (lowV s 32 ++ highV s b') w' ∧ Below w.heap.size w w' := ⟨b + 1, by go_num, by omega, by rw [HS.out, ← List.append_assoc]; exact hi', hbel.trans hb'⟩
              first | exact R | ((repeat apply Exists.intro); exact ⟨R, rfl⟩)
            case measure => simp [intOf] <;> omega
        · obtain rfl : b = 31 := by omega
          go_wp2
          go_ret
          exact ⟨_, rfl, hi.vals, hbel⟩
end Go.Proofs.Qxb6615962aFmt
