import Derived.Test.Qxb6615962aTwo
import Derived.ProofKit
import Derived.OpenShut
import Derived.Deep.Slices
namespace Go.Proofs.Qxb6615962a
open Go.ChangeShapes Go.WideShapes Go.ChangeAt Go.RowKit Go.Deep

theorem cells3 : Try.prog.cellsOf 3 = 1 := by kernel_rfl
theorem cells26 : Try.prog.cellsOf 26 = 1 := by kernel_rfl
theorem cells31 : Try.prog.cellsOf 31 = 12 := by kernel_rfl
theorem cells32 : Try.prog.cellsOf 32 = 23 := by kernel_rfl
theorem cells34 : Try.prog.cellsOf 34 = 37 := by kernel_rfl

theorem ints_of_ones : ∀ l : List Value, (∀ i, i < l.length → ∃ z, (l.drop i).take 1 = [Value.int .u64 z] ∧ U64 z) → ∃ zs : List Int, l = zs.map (Value.int .u64) ∧ ∀ z ∈ zs, U64 z := by
  intro l
  induction l with
  | nil => intro _; exact ⟨[], rfl, by simp⟩
  | cons v l ih =>
    intro h
    obtain ⟨z, hz, hu⟩ := h 0 (by simp)
    obtain ⟨zs, rfl, hzs⟩ := ih fun i hi => h (i + 1) (by simp; omega)
    simp only [List.drop_zero, List.take_succ_cons, List.take_zero, List.cons.injEq, and_true] at hz
    subst hz
    refine ⟨z :: zs, rfl, fun x hx => ?_⟩
    rcases List.mem_cons.1 hx with rfl | hx
    · exact hu
    · exact hzs x hx

section
variable {H : Type} {enc : TypeId × Value → H} {w : World} {base : Nat} {spare : Nat → Bool} {held : Bool}

theorem ints_of_array {t n fuel : Nat} {cs : List Value} {x : DataW H × List MemPlace} (hu : Try.prog.underlying t = some (.array n 26)) (hc : Try.prog.cellsOf t = n) (h : DataW.trod enc Try.prog w base spare held fuel t cs = some x) :
    ∃ zs : List Int, cs = zs.map (Value.int .u64) ∧ (∀ z ∈ zs, U64 z) ∧ zs.length = n := by
  obtain ⟨xs, m, _, _, hl, hxl, he⟩ := DataW.trod_array hu h
  rw [hc] at hl
  obtain ⟨zs, hz, hu64⟩ := ints_of_ones cs fun i hi => by
    have h1 := he i (by omega)
    rw [cells26, Nat.mul_one, List.getElem?_eq_getElem (by omega)] at h1
    obtain ⟨z, hz, _, hw⟩ := DataW.trod_int Try.underlying26 h1
    have hb := bounds_u64 hw
    exact ⟨z, hz, by unfold U64; omega⟩
  exact ⟨zs, hz, hu64, by rw [hz, List.length_map] at hl; exact hl⟩

theorem group_of {fuel : Nat} {cs : List Value} {x : DataW H × List MemPlace} (h : DataW.trod enc Try.prog w base spare held fuel 34 cs = some x) :
    ∃ g : Gp, g.ok ∧ cs = g.cells ∧ -9223372036854775808 ≤ g.node ∧ g.node ≤ 9223372036854775807 := by
  obtain ⟨xs, m, _, _, hl, hxl, he⟩ := DataW.trod_struct Try.underlying34 h
  rw [cells34] at hl
  have e0 : DataW.trod enc Try.prog w base spare held m 3 ((cs.drop 0).take (Try.prog.cellsOf 3)) = xs[0]? := he 0 _ rfl
  have e1 : DataW.trod enc Try.prog w base spare held m 31 ((cs.drop 1).take (Try.prog.cellsOf 31)) = xs[1]? := he 1 _ rfl
  have e2 : DataW.trod enc Try.prog w base spare held m 26 ((cs.drop 13).take (Try.prog.cellsOf 26)) = xs[2]? := he 2 _ rfl
  have e3 : DataW.trod enc Try.prog w base spare held m 32 ((cs.drop 14).take (Try.prog.cellsOf 32)) = xs[3]? := he 3 _ rfl
  have hx4 : xs.length = 4 := hxl
  rw [List.getElem?_eq_getElem (by omega)] at e0 e1 e2 e3
  rw [cells3] at e0
  rw [cells31] at e1
  rw [cells26] at e2
  rw [cells32] at e3
  obtain ⟨node, h0, _, hw0⟩ := DataW.trod_int Try.underlying3 e0
  obtain ⟨months, h1, hu1, hl1⟩ := ints_of_array Try.underlying31 cells31 e1
  obtain ⟨wd, h2, _, hw2⟩ := DataW.trod_int Try.underlying26 e2
  obtain ⟨mins, h3, hu3, hl3⟩ := ints_of_array Try.underlying32 cells32 e3
  have hcs : cs = (cs.drop 0).take 1 ++ ((cs.drop 1).take 12 ++ ((cs.drop 13).take 1 ++ (cs.drop 14).take 23)) := by
    rw [List.take_of_length_le (show (cs.drop 14).length ≤ 23 by rw [List.length_drop]; omega), show cs.drop 14 = (cs.drop 13).drop 1 by rw [List.drop_drop], List.take_append_drop,
      show cs.drop 13 = (cs.drop 1).drop 12 by rw [List.drop_drop], List.take_append_drop, show cs.drop 1 = (cs.drop 0).drop 1 by rw [List.drop_drop], List.take_append_drop]
    rfl
  rw [h0, h1, h2, h3] at hcs
  have hb0 := bounds_i64 hw0
  have hb2 := bounds_u64 hw2
  exact ⟨⟨node, months, wd, mins⟩, ⟨rfl, hl1, hl3, hu1, ⟨hb2.1, by have := hb2.2; show wd < _; omega⟩, hu3⟩, hcs, hb0⟩

theorem groups_of {fuel : Nat} {a : Option Addr} {len cap : Nat} {x : DataW H × List MemPlace} (h : DataW.trod enc Try.prog w base spare held fuel 30 (Value.slice a len cap).cells.toList = some x) :
    ∃ gs : List Gp, IsGroups w a len cap gs := by
  rcases open_slice Try.underlying30 h with ⟨hcs, _⟩ | ⟨a', len', cap', m, n, D, Pl, hcs, hb, hl, _, hm, _, hel⟩
  · simp [Value.cells] at hcs
    obtain ⟨rfl, rfl, rfl⟩ := hcs
    exact ⟨[], rfl, by simp, by simp, fun h => absurd h (by omega)⟩
  · simp [Value.cells] at hcs
    obtain ⟨rfl, rfl, rfl⟩ := hcs
    have hle : len ≤ m := by rw [hm]; split <;> omega
    have key : ∀ j, j < len → ∃ g : Gp, g.ok ∧ (-9223372036854775808 ≤ g.node ∧ g.node ≤ 9223372036854775807) ∧ w.cells? base (a'.add (j * 37)) 37 = some g.cells := by
      intro j hj
      obtain ⟨cs', h1, h2⟩ := hel j (by omega)
      rw [cells34] at h1
      obtain ⟨g, hok, rfl, hn⟩ := group_of h2
      exact ⟨g, hok, hn, h1⟩
    have : ∃ gs : List Gp, gs.length = len ∧ ∀ j, j < len → ∃ g : Gp, gs[j]? = some g ∧ g.ok ∧ (-9223372036854775808 ≤ g.node ∧ g.node ≤ 9223372036854775807) ∧ w.cells? base (a'.add (j * 37)) 37 = some g.cells := by
      have : Inhabited Gp := ⟨⟨0, [], 0, []⟩⟩
      obtain ⟨f, hf⟩ := choose_lt key
      refine ⟨(List.range len).map f, by simp, fun j hj => ⟨f j, by simp [hj], hf j hj⟩⟩
    obtain ⟨gs, hgl, hgs⟩ := this
    have hmem : ∀ g ∈ gs, g.ok ∧ (-9223372036854775808 ≤ g.node ∧ g.node ≤ 9223372036854775807) := by
      intro g hg
      obtain ⟨j, hj, rfl⟩ := List.mem_iff_getElem.1 hg
      obtain ⟨g', hg', hok, hn, _⟩ := hgs j (by omega)
      rw [List.getElem?_eq_getElem hj, Option.some.injEq] at hg'
      rw [hg']
      exact ⟨hok, hn⟩
    refine ⟨gs, hgl, fun g hg => (hmem g hg).1, fun g hg => (hmem g hg).2, fun h0 => ?_⟩
    have hcell : ∀ j, j < len → ∀ i, i < 37 → ∀ g, gs[j]? = some g → w.cell? (a'.add (j * 37 + i)) = g.cells[i]? := by
      intro j hj i hi g hg
      obtain ⟨g', hg', _, _, hc⟩ := hgs j hj
      rw [hg', Option.some.injEq] at hg
      subst hg
      have := (World.cells?_some hc).2.2 i hi
      rw [add_add] at this
      exact this
    obtain ⟨g0, hg0, hok0, _, hc0⟩ := hgs 0 h0
    have hlt : a'.block < w.heap.size := by
      have := World.cells?_block hc0 (by omega)
      rwa [block_add] at this
    obtain ⟨b, off, spot⟩ := a'
    have hspot : spot = none := by
      have h1 := hcell 0 h0 0 (by omega) g0 hg0
      simpa [Addr.add] using World.cell?_spot (v := .int .i64 g0.node) h1
    subst hspot
    refine ⟨b, off, rfl, hlt, fun j hj i hi g hg => ?_⟩
    have := hcell j hj i hi g hg
    rw [Go.WideShapes.add_plain] at this
    rw [Nat.add_assoc]
    exact this
end
end Go.Proofs.Qxb6615962a
