import Derived.Test.Qxb6614905aMem
import Derived.Laws.AppendOwn
import Derived.Deep.RegionHeld
import Derived.Deep.Light
import Derived.Deep.OwnRows
namespace Go.Proofs.Qxb6614905a
open Go.RowKit Go.Deep

set_option maxHeartbeats 400000 in
theorem posIs_same (l c : Int) (w : World) :
    Calls Try.prog 8 #[.agg #[.int .i64 l, .int .i64 c], .int .i64 l, .int .i64 c] w fun e w' => e = .returned (.bool true) ∧ Below w.heap.size w w' := by
  go_enter Try.func8, Try.ntmps8
  go_wp2
  go_ret
  exact ⟨rfl, (Below.refl _ _).alloc (Nat.le_refl _) _⟩

set_option maxHeartbeats 400000 in
theorem pos_of (b : Nat) (l c : Int) (w : World) (h0 : w.cell? ⟨b, 0, none⟩ = some (.int .i64 l)) (h1 : w.cell? ⟨b, 1, none⟩ = some (.int .i64 c)) :
    Calls Try.prog 15 #[.pointer (some ⟨b, 0, none⟩)] w fun e w' => e = .returned (.agg #[.int .i64 l, .int .i64 c]) ∧ Below w.heap.size w w' := by
  have hb := World.block_lt_of_cell? w _ h0
  go_enter Try.func15, Try.ntmps15
  go_wp2
  refine bodyPost_ret (results_cell_row rfl _ _ w.heap.size 28 #[.int .i64 l, .int .i64 c] (0, 0) _ rfl (Blk.new w [.int .i64 l, .int .i64 c] 28) Try.underlying28 rfl (by kernel_rfl)) rfl ?_
  exact ⟨rfl, (Below.refl _ _).alloc (Nat.le_refl _) _⟩

set_option maxHeartbeats 400000 in
theorem bytes13 (a b c d : Int) (a4 : Option Addr) (len4 cap4 : Nat) (a5 : Option Addr) (len5 cap5 : Nat) (w : World) :
    Calls Try.prog 13 #[.int .i64 a, .int .i64 b, .int .i64 c, .int .i64 d, .slice a4 len4 cap4, .slice a5 len5 cap5] w fun e w' => Tells True e ∧ w = w' := by
  by_cases h4 : len4 ≤ 1048576
  all_goals by_cases h5 : len5 ≤ 1048576
  all_goals by_cases h6 : len4 + len5 ≤ 1048576
  all_goals
    go_enter Try.func13, Try.ntmps13
    go_wp2
    all_goals first
      | (go_ret; exact ⟨tells_no, rfl⟩)
      | (go_ret; exact ⟨tells_yes trivial, rfl⟩)

theorem Try.info36 : (Try.prog.info? 36).map (fun i => (i.zero, i.size, i.bytes)) = some (some .nilIface, 1, 16) := by kernel_rfl

theorem own_keep {w w' : World} {base e n : Nat} {v : Value} {xs : List Value} (h : w.ownsRow base e 1 v n xs) (hs : ∀ b, base ≤ b → b < w.heap.size → w'.heap[b]? = w.heap[b]?) : w'.ownsRow base e 1 v n xs := by
  obtain ⟨h1, h2⟩ := h
  refine ⟨h1, ?_⟩
  rcases h2 with h2 | ⟨g, cap, cur, hv, hb, hh, r⟩
  · exact Or.inl h2
  · exact Or.inr ⟨g, cap, cur, hv, hb, (hs g hb (Array.getElem?_eq_some_iff.1 hh).1).trans hh, r⟩

theorem own_shape {w : World} {base e n : Nat} {v : Value} {xs : List Value} (h : w.ownsRow base e 1 v (n + 1) xs) : ∃ g cap, v = .slice (some ⟨g, 0, none⟩) (n + 1) cap := by
  rcases h.2 with ⟨_, h0⟩ | ⟨g, cap, cur, rfl, _⟩
  · omega
  · exact ⟨g, cap, rfl⟩

theorem own_far {w : World} {base e n : Nat} {v : Value} {xs : List Value} (h : w.ownsRow base e 1 v n xs) : ∀ b, v.ownBlock = some b → base ≤ b := by
  intro b hb
  rcases h.2 with ⟨hv, _⟩ | ⟨g, cap, cur, hv, hg, _⟩
  · rw [hv] at hb; cases hb
  · rw [hv] at hb; cases hb; exact hg

set_option maxRecDepth 100000 in
set_option maxHeartbeats 1000000 in
theorem addBody (c B bb : Nat) (k0 k1 o0 o1 : Int) (v : Value) (n : Nat) (xs : List Value) (w : World) (hC : Blk w c [.int .i64 k0, .int .i64 k1, .nilIface, .int .i64 o0, .int .i64 o1, v] 39) (hO : w.ownsRow B 36 1 v n xs) (hc : c < B) (hB : B ≤ w.heap.size) (hn : n ≤ 5000) :
    Calls Try.prog 14 #[.pointer (some ⟨c, 0, none⟩), .pointer (some ⟨bb, 0, none⟩)] w fun e w' => e = .returned (.tuple #[]) ∧
      (∃ v' xs', Blk w' c [.int .i64 k0, .int .i64 k1, .nilIface, .int .i64 o0, .int .i64 o1, v'] 39 ∧ w'.ownsRow B 36 1 v' (n + 1) xs') ∧ Chg (fun b => b = c ∨ B ≤ b) w w' := by
  obtain ⟨i6, h6, z6, s6, b6⟩ := info_parts Try.info36
  have hcell := hC.cell 5
  have hcell' : w.cell? ⟨c, 5, none⟩ = some v := hcell
  have hnew := Blk.new w [.iface 40 (.pointer (some ⟨bb, 0, none⟩))] 36
  have HW : Hid (Blk (w.alloc (.cells #[.iface 40 (.pointer (some ⟨bb, 0, none⟩))] 36)) w.heap.size [.iface 40 (.pointer (some ⟨bb, 0, none⟩))] 36) := hnew
  have HO : Hid ((w.alloc (.cells #[.iface 40 (.pointer (some ⟨bb, 0, none⟩))] 36)).ownsRow B 36 1 v n xs) := own_keep hO (fun b _ hb => Below.heap_alloc _ _ _ hb)
  have HC : Hid (Blk w c [.int .i64 k0, .int .i64 k1, .nilIface, .int .i64 o0, .int .i64 o1, v] 39) := hC
  clear hcell hnew hC hO
  go_enter Try.func14, Try.ntmps14
  go_wp2_with (refine wpList_append_own _ rfl (.tmp 8) (.tmp 11) 37 rfl B 36 i6 .nilIface 1 16 Try.underlying37 h6 z6 s6 b6 rfl (by decide) v n xs rfl HO.out ⟨w.heap.size, 0, none⟩ 1 1 [.iface 40 (.pointer (some ⟨bb, 0, none⟩))] rfl rfl (by intro j u hj; rw [Addr.add_mid, Nat.zero_add, HW.out.cell j]; exact hj) (by intro u hu; simp at hu; subst hu; rfl) (by unfold maxLen; omega) (by omega) (by simp; omega) ?_)
  intro v' w5 hO5 hg5 _
  obtain ⟨r, cap', rfl⟩ := own_shape hO5
  have hcw := HC.out.lt
  have hC5 : Blk w5 c [.int .i64 k0, .int .i64 k1, .nilIface, .int .i64 o0, .int .i64 o1, v] 39 := (hg5.block c (by simp; omega) (fun e => by have := own_far HO.out c e.symm; omega)).trans (HC.out.alloc _)
  have hs5 : w5.cell? ⟨c, 5, none⟩ = some v := hC5.cell 5
  have hf5 : w5.frozen? ⟨c, 5, none⟩ = false := hC5.frozen 5
  have HEND : Hid (Blk (w5.setCell ⟨c, 5, none⟩ (.slice (some ⟨r, 0, none⟩) (n + 1) cap')) c [.int .i64 k0, .int .i64 k1, .nilIface, .int .i64 o0, .int .i64 o1, (.slice (some ⟨r, 0, none⟩) (n + 1) cap')] 39 ∧ (w5.setCell ⟨c, 5, none⟩ (.slice (some ⟨r, 0, none⟩) (n + 1) cap')).ownsRow B 36 1 (.slice (some ⟨r, 0, none⟩) (n + 1) cap') (n + 1) (xs ++ [.iface 40 (.pointer (some ⟨bb, 0, none⟩))]) ∧ Chg (fun b => b = c ∨ B ≤ b) w (w5.setCell ⟨c, 5, none⟩ (.slice (some ⟨r, 0, none⟩) (n + 1) cap'))) := by
    have hz5 := hg5.size
    simp only [World.size_alloc] at hz5
    refine ⟨hC5.set 5 _, own_keep hO5 (fun b hb _ => Below.heap_setCell _ _ _ _ (by simp only [ne_eq]; omega)), hg5.os, hg5.tape, hg5.output, by simp [World.setCell]; omega, fun b hb hn => ?_⟩
    rw [Below.heap_setCell _ _ _ _ (fun e => hn (.inl e)), hg5.block b (by simp; omega) (fun e => hn (.inr (own_far HO.out b e.symm))), Below.heap_alloc _ _ _ hb]
  clear hC5 hg5 hO5 hcw HO HW HC h6 z6 s6 b6
  go_wp2
  go_end0
  exact ⟨rfl, ⟨_, _, HEND.out.1, HEND.out.2.1⟩, HEND.out.2.2⟩

end Go.Proofs.Qxb6614905a
