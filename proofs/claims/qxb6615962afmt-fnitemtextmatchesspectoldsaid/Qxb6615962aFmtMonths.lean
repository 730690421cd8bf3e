import Derived.Test.Qxb6615962aFmtSets
import Derived.Test.Qxb6615962aFmtMem
namespace Go.Proofs.Qxb6615962aFmt
open Go.RowKit Go.Shelf

/-- The cells of an array of sets. -/
def mcells (ms : List Nat) : List Value := ms.map fun m : Nat => Value.int .u64 m
/-- The number at place i. -/
def nat0 (ms : List Nat) (i : Nat) : Nat := ms.getD i 0

theorem mcells_at (ms : List Nat) (i : Nat) (h : i < ms.length) : (mcells ms)[i]? = some (.int .u64 (nat0 ms i)) := by
  unfold mcells nat0
  rw [List.getElem?_map, List.getElem?_eq_getElem h, List.getD, List.getElem?_eq_getElem h]; rfl

theorem idx12 (ms : List Nat) (h : ms.length = 12) (i : Nat) (hi : i < 12) (w : World) : (Instr.index 42 (.agg (mcells ms).toArray) (.int .i64 i)).run Tryf.prog w = .ok (.int .u64 (nat0 ms i)) w := by
  have hm := mcells_at ms i (by omega)
  simp [Instr.index, asIntOf, run_underlying Tryf.underlying42, hi, Tryf.sizeOf41, part, Tryf.isAgg41, hm]

def dlast (ms : List Nat) : Nat → Nat
  | 0 => 0
  | k + 1 => if nat0 ms k = 0 then dlast ms k else nat0 ms k

def mset (ms : List Nat) : Nat → Nat
  | 0 => 0
  | k + 1 => if nat0 ms k = 0 then mset ms k else mset ms k ||| 2 ^ (k + 1)

theorem mset_bits (ms : List Nat) (k j : Nat) : (mset ms k).testBit j = (decide (1 ≤ j) && decide (j ≤ k) && !decide (nat0 ms (j - 1) = 0)) := by
  induction k with
  | zero =>
    by_cases h : 1 ≤ j
    · rw [decide_eq_false (show ¬ j ≤ 0 by omega)]; simp [mset]
    · rw [decide_eq_false h]; simp [mset]
  | succ k ih =>
    rw [mset]
    by_cases hz : nat0 ms k = 0
    · rw [if_pos hz, ih]
      by_cases hj : j = k + 1
      · subst hj; simp [hz]
      · have : decide (j ≤ k) = decide (j ≤ k + 1) := by
          by_cases h : j ≤ k
          · rw [decide_eq_true h, decide_eq_true (by omega)]
          · rw [decide_eq_false h, decide_eq_false (by omega)]
        rw [this]
    · rw [if_neg hz, Nat.testBit_or, ih, Nat.testBit_two_pow]
      by_cases hj : j = k + 1
      · subst hj; simp [hz]
      · have : decide (j ≤ k) = decide (j ≤ k + 1) := by
          by_cases h : j ≤ k
          · rw [decide_eq_true h, decide_eq_true (by omega)]
          · rw [decide_eq_false h, decide_eq_false (by omega)]
        rw [this, decide_eq_false (show ¬ k + 1 = j by omega), Bool.or_false]

theorem mset_lt (ms : List Nat) (k : Nat) (hk : k ≤ 12) : mset ms k < 2 ^ 13 := by
  induction k with
  | zero => simp [mset]
  | succ k ih =>
    rw [mset]
    split
    · exact ih (by omega)
    · exact Nat.or_lt_two_pow (ih (by omega)) (Nat.pow_lt_pow_right (by omega) (by omega))

set_option maxRecDepth 100000 in
set_option maxHeartbeats 1000000 in
theorem months_any (bD : Nat) (ms : List Nat) (p : ByteArray) (w : World) (hD : Blk w bD (mcells ms ++ [.string p]) 44) (h12 : ms.length = 12) :
    Calls Tryf.prog 19 #[.pointer (some ⟨bD, 0, none⟩)] w fun e w' => e = .returned (.tuple #[.int .u64 (mset ms 12), .int .u64 (dlast ms 12)]) ∧ w = w' := by
  have hr : w.rangeAt bD 0 (mcells ms) := by
    intro j v hj
    rw [Nat.zero_add, hD.cell, List.getElem?_append_left (List.getElem?_eq_some_iff.1 hj).1]; exact hj
  have hi : (Tryf.prog.info? 42).map (·.size) = some (mcells ms).length := by
    rw [show (mcells ms).length = 12 by simp [mcells, h12]]; kernel_rfl
  have HL : Hid (w.rangeAt bD 0 (mcells ms) ∧ (Tryf.prog.info? 42).map (·.size) = some (mcells ms).length) := ⟨hr, hi⟩
  have hx := idx12 ms h12
  clear hr hi hD
  go_enter Tryf.func19, Tryf.ntmps19
  go_wp2_with (refine wpList_load_mid rfl 42 (.tmp 8) rfl _ _ rfl _ _ HL.out.1 Tryf.underlying42 rfl HL.out.2 ?_)
  go_loopw [2, 3, 10] (fun m d k wr => ∃ i : Nat, k = .int .i64 i ∧ i ≤ 12 ∧ m = .int .u64 (mset ms i) ∧ d = .int .u64 (dlast ms i) ∧ wr = w) (fun _ _ k _ => 12 - (intOf k).toNat)
  case atStart => exact ⟨0, rfl, by omega, rfl, rfl, rfl⟩
  case round =>
    obtain ⟨i, rfl, hi12, rfl, rfl, rfl⟩ := hrel
    by_cases hlt : i < 12
    · have hxi := hx i hlt
      by_cases hz : nat0 ms i = 0
      · rw [hz] at hxi
        go_wp2
        go_roundw
        case rel => exact ⟨i + 1, by go_num, by omega, by rw [mset, if_pos hz], by rw [dlast, if_pos hz], trivial⟩
        case measure => simp [intOf] <;> omega
      · have hnz : ((nat0 ms i : Nat) : Int) ≠ 0 := by omega
        have hor : bits BinOp.or IntKind.u64 ((mset ms i : Nat) : Int) ((2 ^ (i + 1) : Nat) : Int) = ((mset ms i ||| 2 ^ (i + 1) : Nat) : Int) := by
          have h1 := mset_lt ms i hi12
          have h2 : 2 ^ (i + 1) < 2 ^ 64 := Nat.pow_lt_pow_right (by omega) (by omega)
          exact bits_or_u64_nat _ _ (by omega) (by omega)
        have HO : Hid (bits BinOp.or IntKind.u64 ((mset ms i : Nat) : Int) ((2 ^ (i + 1) : Nat) : Int) = ((mset ms i ||| 2 ^ (i + 1) : Nat) : Int)) := hor
        clear hor
        go_wp2_with fail
        rw [show (i : Int) + 1 = vo (i + 1) by unfold vo; rw [if_neg (by omega)]; omega]
        refine (valueRange_any (i + 1) 0 (by omega) wr).mono ?_
        rintro e w' ⟨rfl, rfl⟩
        rw [show 2 ^ (i + 1 + 0 + 1) - 2 ^ (i + 1) = 2 ^ (i + 1) by rw [Nat.add_zero, Nat.pow_succ 2 (i + 1)]; omega]
        obtain ⟨pw, hpw⟩ : ∃ pw : Nat, 2 ^ (i + 1) = pw := ⟨_, rfl⟩
        rw [hpw] at HO ⊢
        have HP : Hid (2 ^ (i + 1) = pw) := hpw
        clear hpw
        go_wp2
        go_roundw
        case rel => exact ⟨i + 1, by go_num, by omega, by rw [mset, if_neg hz, HP.out, HO.out], by rw [dlast, if_neg hz], trivial⟩
        case measure => simp [intOf] <;> omega
    · obtain rfl : i = 12 := by omega
      go_wp2
      go_ret2
      exact ⟨rfl, rfl⟩
end Go.Proofs.Qxb6615962aFmt
