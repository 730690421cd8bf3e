import Derived.Test.Qxb6615962aFmtModel
import Derived.Test.Qxb6615962aFmtNew
import Derived.Test.Qxb6615962aFmtValid
import Derived.Test.Qxb6615962aFmtLaw
import Derived.OwnWalk
import Derived.Laws.CopyRow
namespace Go.Proofs.Qxb6615962aFmt
open Go.RowKit Go.Shelf Go.Extern.Stop Go.Stop Go.Extern
set_option linter.unusedSimpArgs false

/-! ### the two texts are one -/
theorem texts_same (ms : List Nat) (p : ByteArray) (wd : Nat) (tms : List (Nat × Nat)) (ps : Nat) (h32 : (dlast ms 12).testBit 32 = false) (hwd : wd < 128) : itemT ms p wd tms ps = modelT ms (dlast ms 12) p wd tms ps := by
  have n0 : ∀ x, intT x = nameT 0 x := fun x => by rw [nameT, if_neg (by decide)]
  have n1 : ∀ x : Int, (fun x : Int => wdT x.toNat) x = nameT 1 x := fun x => by rw [nameT, if_pos rfl]
  have e1 : Lib.join (dayL ms) [44, 32] = runsT 0 (groups (valsOf (dlast ms 12))) := by rw [valsOf_from _ h32]; exact runsT_eq 0 intT n0 _
  have e2 : Lib.join (monL ms) [44, 32] = runsT 0 (groups (mvals ms 12)) := by
    have e : mvals ms 12 = mvalsL ms := rfl
    rw [e, ← valsFrom_mset]; exact runsT_eq 0 intT n0 _
  have e3 : Lib.join (weekL wd) [44, 32] = runsT 1 (groups (lowV wd 7)) := by
    rw [← valsFrom_low wd 7 (by omega) (fun j h1 _ => Nat.testBit_lt_two_pow (Nat.lt_of_lt_of_le hwd (show 2 ^ 7 ≤ 2 ^ j from Nat.pow_le_pow_right (by omega) h1)))]
    exact runsT_eq 1 _ n1 _
  unfold itemT modelT dayP monP yearP weekP timeP setT
  rw [e1, e2, e3]
  simp

/-! ### the copy of the times -/
def icells (tms : List (Int × Int)) : List Value := (tms.map fun x => [Value.int .i64 x.1, Value.int .i64 x.2]).flatten
theorem icells_len (tms : List (Int × Int)) : (icells tms).length = tms.length * 2 := by
  induction tms with
  | nil => rfl
  | cons a r ih => simp only [icells, List.map_cons, List.flatten_cons, List.length_append, List.length_cons, List.length_nil] at ih ⊢; omega
theorem icells_one (tms : List (Int × Int)) : ∀ v ∈ icells tms, v.oneCell' = true := by
  intro v hv
  obtain ⟨l, hl, hv⟩ := List.mem_flatten.1 hv
  obtain ⟨x, _, rfl⟩ := List.mem_map.1 hl
  simp only [List.mem_cons, List.not_mem_nil, or_false] at hv
  rcases hv with rfl | rfl <;> rfl
theorem icells_at : ∀ (tms : List (Int × Int)) (j : Nat), j < tms.length → (icells tms)[j * 2]? = some (.int .i64 (tms.getD j (0, 0)).1) ∧ (icells tms)[j * 2 + 1]? = some (.int .i64 (tms.getD j (0, 0)).2)
  | [], j, h => by simp at h
  | a :: r, 0, _ => by simp [icells]
  | a :: r, j + 1, h => by
    have ih := icells_at r j (by simp at h; omega)
    have e : icells (a :: r) = [.int .i64 a.1, .int .i64 a.2] ++ icells r := rfl
    rw [e, List.getElem?_append_right (by simp; omega), List.getElem?_append_right (by simp; omega)]
    simp only [List.length_cons, List.length_nil]
    rw [show (j + 1) * 2 - (0 + 1 + 1) = j * 2 by omega, show (j + 1) * 2 + 1 - (0 + 1 + 1) = j * 2 + 1 by omega]
    simpa using ih

theorem info30 : (Tryf.prog.info? 30).map (fun i => (i.zero, i.size, i.bytes)) = some (some (.agg #[.int .i64 0, .int .i64 0]), 2, 16) := by kernel_rfl

theorem run_copy2 (w : World) (ty : TypeId) (g n cap : Nat) (ad : Addr) (cur : Array Value) (cs : List Value) (hg : w.heap[g]? = some (.cells cur 30 (0, 0))) (hcur : cur.size = n * 2) (hcs : cs.length = n * 2)
    (hsrc : ∀ j v, cs[j]? = some v → w.cell? (ad.add j) = some v) (h1 : ∀ v ∈ cs, v.oneCell' = true) :
    (Builtin.copy_ #[24, 24] ty #[.slice (some ⟨g, 0, none⟩) n n, .slice (some ad) n cap]).run Tryf.prog w = .ok (goInt n) (w.setRow g cs.toArray) := by
  have hf := run_firstCells_some (P := Tryf.prog) w 2 n ad n cap cs hcs hsrc
  have hst := run_storeCells_at Tryf.prog g 0 30 cs 0 cur w hg (by omega) h1
  have e : (cur.toList.take (0 + 0) ++ cs ++ cur.toList.drop (0 + 0 + cs.length)).toArray = cs.toArray := by
    rw [List.drop_eq_nil_of_le (by rw [Array.length_toList]; omega)]; simp
  rw [e] at hst
  have hm : Nat.min n n = n := Nat.min_self n
  simp only [Builtin.copy_, Sem.run_bind, Sem.run_pure, run_underlying Tryf.underlying24, Builtin.lenOf, Tryf.sizeOf30, Result.andThen_ok, hm, hf, hst, List.getElem?_toArray, List.getElem?_cons_zero, List.getElem?_cons_succ]

theorem wpList_copy2 {ops : Array Oper} {rest : List Oper} {o : Oper} {a : Act} {w : World} {Q : Exit → Act → World → Prop} (hgd : o.guard = none) (d s : Operand) (ho : o.op = .call { callee := .builtin .copy, args := #[d, s], argTypes := #[24, 24] })
    (g n cap : Nat) (ad : Addr) (hd : a.eval d = .slice (some ⟨g, 0, none⟩) n n) (hs : a.eval s = .slice (some ad) n cap) (cur : Array Value) (cs : List Value) (hg : w.heap[g]? = some (.cells cur 30 (0, 0))) (hcur : cur.size = n * 2) (hcs : cs.length = n * 2)
    (hsrc : ∀ j v, cs[j]? = some v → w.cell? (ad.add j) = some v) (h1 : ∀ v ∈ cs, v.oneCell' = true)
    (h : ∀ w', Hid (Put w g cs 30 w') → wpList Tryf.prog ops Q rest (a.put o.dst (goInt n)) w') : wpList Tryf.prog ops Q (o :: rest) a w := by
  refine wpList_plain hgd fun K hK => ?_
  have hrun := run_copy2 w o.type g n cap ad cur cs hg hcur hcs hsrc h1
  unfold Oper.wp
  simp [execOp, ho, resolve, invoke, builtin, hd, hs, hrun, Result.andThen]
  refine hK _ _ (h _ ⟨setRow_heap w g _ _ 30 _ hg, by simp [World.setRow], rfl, rfl, rfl, fun b hb => setRow_other w g b _ (by omega)⟩)

/-- A slice of pairs of ints, in a block of its own. -/
def TimesI (tv : Value) (tms : List (Int × Int)) (w : World) : Prop :=
  ∃ ao cap, tv = .slice ao tms.length cap ∧ (0 < tms.length → ∃ g, ao = some ⟨g, 0, none⟩ ∧ g < w.heap.size ∧ ∀ j, j < tms.length → w.cell? ⟨g, j * 2, none⟩ = some (.int .i64 (tms.getD j (0, 0)).1) ∧ w.cell? ⟨g, j * 2 + 1, none⟩ = some (.int .i64 (tms.getD j (0, 0)).2))

theorem TimesI.below {tv : Value} {tms : List (Int × Int)} {w w' : World} (h : TimesI tv tms w) (hb : Below w.heap.size w w') : TimesI tv tms w' := by
  obtain ⟨ao, cap, hv, hc⟩ := h
  refine ⟨ao, cap, hv, fun h0 => ?_⟩
  obtain ⟨g, ha, hg, hcell⟩ := hc h0
  refine ⟨g, ha, Nat.lt_of_lt_of_le hg hb.size, fun j hj => ?_⟩
  rw [hb.cell (p := ⟨g, j * 2, none⟩) hg, hb.cell (p := ⟨g, j * 2 + 1, none⟩) hg]
  exact hcell j hj

/-- The pairs as natural numbers, where all are. -/
theorem TimesI.nat {tv : Value} {tms : List (Int × Int)} {w : World} (h : TimesI tv tms w) (h0 : ∀ j, j < tms.length → 0 ≤ (tms.getD j (0, 0)).1 ∧ 0 ≤ (tms.getD j (0, 0)).2) : Times tv (tms.map fun x => (x.1.toNat, x.2.toNat)) w := by
  obtain ⟨ao, cap, hv, hc⟩ := h
  refine ⟨ao, cap, by rw [List.length_map]; exact hv, fun hp => ?_⟩
  rw [List.length_map] at hp ⊢
  obtain ⟨g, ha, hg, hcell⟩ := hc hp
  refine ⟨g, ha, hg, fun j hj => ?_⟩
  have hz := h0 j hj
  have e : (tms.map fun x => (x.1.toNat, x.2.toNat)).getD j (0, 0) = ((tms.getD j (0, 0)).1.toNat, (tms.getD j (0, 0)).2.toNat) := by
    simp [List.getD, hj]
  rw [e]
  have hc2 := hcell j hj
  rw [hc2.1, hc2.2]
  simp only [Int.toNat_of_nonneg hz.1, Int.toNat_of_nonneg hz.2]
  exact ⟨trivial, trivial⟩
end Go.Proofs.Qxb6615962aFmt
