import Derived.Test.Qxb6615962aFmtItem
namespace Go.Proofs.Qxb6615962aFmt

/-! ### the program's text is the model's: the plain law -/

theorem filter_none {α : Type} (f : α → Bool) : ∀ L : List α, (∀ x ∈ L, f x = false) → L.filter f = []
  | [], _ => rfl
  | a :: r, h => by rw [List.filter_cons_of_neg (by rw [h a List.mem_cons_self]; simp)]; exact filter_none f r (fun x hx => h x (List.mem_cons_of_mem _ hx))

/-- The values of a set without bit 32, by its bits in order. -/
theorem valsOf_from (s : Nat) (h32 : s.testBit 32 = false) : valsOf s = valsFrom s 0 := by
  have e : List.range' 0 64 = List.range 32 ++ ([32] ++ (List.range 31).map (33 + ·)) := by decide
  unfold valsFrom
  rw [Nat.sub_zero, e, List.filter_append, List.filter_append, List.map_append, List.map_append]
  rw [filter_none s.testBit [32] (by intro x hx; rw [List.mem_singleton] at hx; subst hx; exact h32), List.map_nil, List.nil_append]
  unfold valsOf lowV highV
  congr 1
  · refine List.map_congr_left fun x hx => ?_
    have := List.mem_range.1 (List.mem_filter.1 hx).1
    unfold vo
    rw [if_neg (by omega)]
    rfl
  · rw [List.filter_map, List.map_map]
    refine List.map_congr_left fun x hx => ?_
    have := List.mem_range.1 (List.mem_filter.1 hx).1
    simp only [Function.comp]
    unfold vo
    rw [if_pos (by omega)]
    omega

/-- The values of a set of small numbers. -/
theorem valsFrom_low (s k : Nat) (hk : k ≤ 32) (h : ∀ j, k ≤ j → j < 64 → s.testBit j = false) : valsFrom s 0 = lowV s k := by
  have e : List.range' 0 64 = List.range k ++ List.range' k (64 - k) := by
    have h1 := List.range'_append_1 (s := 0) (m := k) (n := 64 - k)
    rw [Nat.zero_add, show k + (64 - k) = 64 by omega] at h1
    rw [List.range_eq_range', h1]
  unfold valsFrom
  rw [Nat.sub_zero, e, List.filter_append, List.map_append, filter_none s.testBit (List.range' k (64 - k)) ?_, List.map_nil, List.append_nil]
  · unfold lowV
    refine List.map_congr_left fun x hx => ?_
    have := List.mem_range.1 (List.mem_filter.1 hx).1
    unfold vo
    rw [if_neg (by omega)]
    rfl
  · intro x hx
    rw [List.mem_range'_1] at hx
    exact h x hx.1 (by omega)

theorem txt_run (k : Nat) (nm : Int → List UInt8) (h : ∀ x, nm x = nameT k x) (p : Int × Int) : txt nm p = runT k p := by
  unfold txt runT
  rw [h, h]

theorem runsT_eq (k : Nat) (nm : Int → List UInt8) (h : ∀ x, nm x = nameT k x) (L : List (Int × Int)) : Lib.join (L.map (txt nm)) [44, 32] = runsT k L := by
  unfold runsT
  congr 1
  exact List.map_congr_left fun p _ => txt_run k nm h p

/-- The months' values. -/
def mvalsL (ms : List Nat) : List Int := ((List.range 12).filter fun i => !decide (nat0 ms i = 0)).map fun i : Nat => (i : Int) + 1

theorem valsFrom_mset (ms : List Nat) : valsFrom (mset ms 12) 0 = mvalsL ms := by
  have hb := mset_bits ms 12
  rw [valsFrom_low (mset ms 12) 13 (by omega) (fun j h1 _ => by rw [hb, decide_eq_false (show ¬ j ≤ 12 by omega)]; simp)]
  have e : List.range 13 = [0] ++ (List.range 12).map (1 + ·) := by decide
  unfold lowV mvalsL
  rw [e, List.filter_append, List.map_append, filter_none (mset ms 12).testBit [0] (by intro x hx; rw [List.mem_singleton] at hx; subst hx; rw [hb]; simp), List.map_nil, List.nil_append, List.filter_map, List.map_map]
  have e2 : (List.range 12).filter ((mset ms 12).testBit ∘ (1 + ·)) = (List.range 12).filter fun i => !decide (nat0 ms i = 0) := by
    refine List.filter_congr fun x hx => ?_
    have := List.mem_range.1 hx
    simp only [Function.comp]
    rw [hb, decide_eq_true (show 1 ≤ 1 + x by omega), decide_eq_true (show 1 + x ≤ 12 by omega), show 1 + x - 1 = x by omega]
    simp
  rw [e2]
  refine List.map_congr_left fun x _ => ?_
  simp only [Function.comp]
  show ((1 + x : Nat) : Int) = _
  omega

end Go.Proofs.Qxb6615962aFmt
