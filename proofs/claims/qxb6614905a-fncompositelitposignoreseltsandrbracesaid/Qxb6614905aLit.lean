import Derived.Test.Qxb6614905aComm
namespace Go.Proofs.Qxb6614905a
open Go.RowKit Go.Deep

theorem Try.info45 : (Try.prog.info? 45).map (fun i => (i.zero, i.size, i.bytes)) = some (some .nilIface, 1, 16) := by kernel_rfl

set_option maxHeartbeats 400000 in
theorem untyped_of (l c r0 r1 : Int) (w : World) :
    Calls Try.prog 7 #[.int .i64 l, .int .i64 c, .int .i64 r0, .int .i64 r1] w fun e w' => e = .returned (.pointer (some ⟨w.heap.size, 0, none⟩)) ∧ w' = w.alloc (.cells #[.nilIface, .int .i64 l, .int .i64 c, .slice none 0 0, .int .i64 r0, .int .i64 r1] 48) := by
  go_enter Try.func7, Try.ntmps7
  go_wp2
  go_ret
  exact ⟨rfl, rfl⟩

set_option maxHeartbeats 400000 in
theorem typed_of (t : Nat) (l c r0 r1 : Int) (w : World) :
    Calls Try.prog 10 #[.pointer (some ⟨t, 0, none⟩), .int .i64 l, .int .i64 c, .int .i64 r0, .int .i64 r1] w fun e w' => e = .returned (.pointer (some ⟨w.heap.size, 0, none⟩)) ∧ w' = w.alloc (.cells #[.iface 24 (.pointer (some ⟨t, 0, none⟩)), .int .i64 l, .int .i64 c, .slice none 0 0, .int .i64 r0, .int .i64 r1] 48) := by
  go_enter Try.func10, Try.ntmps10
  go_wp2
  go_ret
  exact ⟨rfl, rfl⟩

set_option maxHeartbeats 400000 in
theorem posLit_bare (b : Nat) (l c : Int) (w : World) (h0 : w.cell? ⟨b, 0, none⟩ = some .nilIface) (h1 : w.cell? ⟨b, 1, none⟩ = some (.int .i64 l)) (h2 : w.cell? ⟨b, 2, none⟩ = some (.int .i64 c)) :
    Calls Try.prog 9 #[.pointer (some ⟨b, 0, none⟩)] w fun e w' => e = .returned (.agg #[.int .i64 l, .int .i64 c]) ∧ Below w.heap.size w w' := by
  have hb := World.block_lt_of_cell? w _ h0
  have hne : w.heap.size ≠ b := fun e => by simp only [] at hb; omega
  go_enter Try.func9, Try.ntmps9
  go_wp2
  refine bodyPost_ret (results_cell_row rfl _ _ w.heap.size 28 #[.int .i64 l, .int .i64 c] (0, 0) _ rfl (Blk.new w [.int .i64 l, .int .i64 c] 28) Try.underlying28 rfl (by kernel_rfl)) rfl ?_
  exact ⟨rfl, (Below.refl _ _).alloc (Nat.le_refl _) _⟩

theorem method_pos (q : Addr) (w : World) : Sem.run Try.prog (method 167 24 (.pointer (some q)) "Pos") w = .ok (9, .pointer (some q)) w := by kernel_rfl

set_option maxHeartbeats 400000 in
theorem posLit_typed (b t : Nat) (l c : Int) (w : World) (h0 : w.cell? ⟨b, 0, none⟩ = some (.iface 24 (.pointer (some ⟨t, 0, none⟩)))) (t0 : w.cell? ⟨t, 0, none⟩ = some .nilIface) (h1 : w.cell? ⟨t, 1, none⟩ = some (.int .i64 l)) (h2 : w.cell? ⟨t, 2, none⟩ = some (.int .i64 c)) :
    Calls Try.prog 9 #[.pointer (some ⟨b, 0, none⟩)] w fun e w' => e = .returned (.agg #[.int .i64 l, .int .i64 c]) ∧ Below w.heap.size w w' := by
  have hb := World.block_lt_of_cell? w _ h0
  have ht := World.block_lt_of_cell? w _ t0
  have hne : w.heap.size ≠ b := fun e => by simp only [] at hb; omega
  have hb1 : Below w.heap.size w (w.alloc (.cells #[.int .i64 0, .int .i64 0] 28)) := (Below.refl _ _).alloc (Nat.le_refl _) _
  have HC := posLit_bare t l c _ (keep_cell hb1 t0) (keep_cell hb1 h1) (keep_cell hb1 h2)
  have HN := Blk.new w [.int .i64 0, .int .i64 0] 28
  clear t0 h1 h2
  go_enter Try.func9, Try.ntmps9
  have hmp := method_pos ⟨t, 0, none⟩ (w.alloc (.cells #[.int .i64 0, .int .i64 0] 28))
  go_wp2_with fail
  refine HC.mono ?_
  rintro e w' ⟨rfl, hb2⟩
  have hN2 := HN.below hb2 (by simp)
  have e0 : w'.cell? ⟨w.heap.size, 0, none⟩ = some (.int .i64 0) := hN2.cell 0
  have e1 : w'.cell? ⟨w.heap.size, 1, none⟩ = some (.int .i64 0) := hN2.cell 1
  have f0 : w'.frozen? ⟨w.heap.size, 0, none⟩ = false := hN2.frozen 0
  have f1 : w'.frozen? ⟨w.heap.size, 1, none⟩ = false := hN2.frozen 1
  have HE : Hid (Blk ((w'.setCell ⟨w.heap.size, 0, none⟩ (.int .i64 l)).setCell ⟨w.heap.size, 1, none⟩ (.int .i64 c)) w.heap.size [.int .i64 l, .int .i64 c] 28 ∧ Below w.heap.size w ((w'.setCell ⟨w.heap.size, 0, none⟩ (.int .i64 l)).setCell ⟨w.heap.size, 1, none⟩ (.int .i64 c))) := by
    refine ⟨(hN2.set 0 (.int .i64 l)).set 1 (.int .i64 c), ?_⟩
    exact ((hb1.trans (hb2.mono (by simp))).setCell (by simp) _).setCell (by simp) _
  clear hN2 HN hb2 HC hmp h0 hb ht hne hb1
  go_wp2
  refine bodyPost_ret (results_cell_row rfl _ _ w.heap.size 28 #[.int .i64 l, .int .i64 c] (0, 0) _ rfl HE.out.1 Try.underlying28 rfl (by kernel_rfl)) rfl ?_
  exact ⟨rfl, HE.out.2⟩

set_option maxHeartbeats 400000 in
theorem bytes11 (t : Bool) (a b c d e f : Int) (a4 : Option Addr) (len4 cap4 : Nat) (a5 : Option Addr) (len5 cap5 : Nat) (w : World) :
    Calls Try.prog 11 #[.bool t, .int .i64 a, .int .i64 b, .int .i64 c, .int .i64 d, .int .i64 e, .int .i64 f, .slice a4 len4 cap4, .slice a5 len5 cap5] w fun e w' => Tells True e ∧ w = w' := by
  by_cases h4 : len4 ≤ 1048576
  all_goals by_cases h5 : len5 ≤ 1048576
  all_goals by_cases h6 : len4 + len5 ≤ 1048576
  all_goals
    go_enter Try.func11, Try.ntmps11
    go_wp2
    all_goals first
      | (go_ret; exact ⟨tells_no, rfl⟩)
      | (go_ret; exact ⟨tells_yes trivial, rfl⟩)

set_option maxRecDepth 100000 in
set_option maxHeartbeats 1000000 in
theorem addElt (c B bb : Nat) (T : Value) (k0 k1 o0 o1 : Int) (v : Value) (n : Nat) (xs : List Value) (w : World) (hC : Blk w c [T, .int .i64 k0, .int .i64 k1, v, .int .i64 o0, .int .i64 o1] 48) (hO : w.ownsRow B 45 1 v n xs) (hc : c < B) (hB : B ≤ w.heap.size) (hn : n ≤ 5000) :
    Calls Try.prog 12 #[.pointer (some ⟨c, 0, none⟩), .pointer (some ⟨bb, 0, none⟩)] w fun e w' => e = .returned (.tuple #[]) ∧
      (∃ v' xs', Blk w' c [T, .int .i64 k0, .int .i64 k1, v', .int .i64 o0, .int .i64 o1] 48 ∧ w'.ownsRow B 45 1 v' (n + 1) xs') ∧ Chg (fun b => b = c ∨ B ≤ b) w w' := by
  obtain ⟨i6, h6, z6, s6, b6⟩ := info_parts Try.info45
  have hcell := hC.cell 3
  have hcell' : w.cell? ⟨c, 3, none⟩ = some v := hcell
  have hnew := Blk.new w [.iface 24 (.pointer (some ⟨bb, 0, none⟩))] 45
  have HW : Hid (Blk (w.alloc (.cells #[.iface 24 (.pointer (some ⟨bb, 0, none⟩))] 45)) w.heap.size [.iface 24 (.pointer (some ⟨bb, 0, none⟩))] 45) := hnew
  have HO : Hid ((w.alloc (.cells #[.iface 24 (.pointer (some ⟨bb, 0, none⟩))] 45)).ownsRow B 45 1 v n xs) := own_keep hO (fun b _ hb => Below.heap_alloc _ _ _ hb)
  have HC : Hid (Blk w c [T, .int .i64 k0, .int .i64 k1, v, .int .i64 o0, .int .i64 o1] 48) := hC
  clear hcell hnew hC hO
  go_enter Try.func12, Try.ntmps12
  go_wp2_with (refine wpList_append_own _ rfl (.tmp 8) (.tmp 11) 46 rfl B 45 i6 .nilIface 1 16 Try.underlying46 h6 z6 s6 b6 rfl (by decide) v n xs rfl HO.out ⟨w.heap.size, 0, none⟩ 1 1 [.iface 24 (.pointer (some ⟨bb, 0, none⟩))] rfl rfl (by intro j u hj; rw [Addr.add_mid, Nat.zero_add, HW.out.cell j]; exact hj) (by intro u hu; simp at hu; subst hu; rfl) (by unfold maxLen; omega) (by omega) (by simp; omega) ?_)
  intro v' w5 hO5 hg5 _
  obtain ⟨r, cap', rfl⟩ := own_shape hO5
  have hcw := HC.out.lt
  have hC5 : Blk w5 c [T, .int .i64 k0, .int .i64 k1, v, .int .i64 o0, .int .i64 o1] 48 := (hg5.block c (by simp; omega) (fun e => by have := own_far HO.out c e.symm; omega)).trans (HC.out.alloc _)
  have hs5 : w5.cell? ⟨c, 3, none⟩ = some v := hC5.cell 3
  have hf5 : w5.frozen? ⟨c, 3, none⟩ = false := hC5.frozen 3
  have HEND : Hid (Blk (w5.setCell ⟨c, 3, none⟩ (.slice (some ⟨r, 0, none⟩) (n + 1) cap')) c [T, .int .i64 k0, .int .i64 k1, (.slice (some ⟨r, 0, none⟩) (n + 1) cap'), .int .i64 o0, .int .i64 o1] 48 ∧ (w5.setCell ⟨c, 3, none⟩ (.slice (some ⟨r, 0, none⟩) (n + 1) cap')).ownsRow B 45 1 (.slice (some ⟨r, 0, none⟩) (n + 1) cap') (n + 1) (xs ++ [.iface 24 (.pointer (some ⟨bb, 0, none⟩))]) ∧ Chg (fun b => b = c ∨ B ≤ b) w (w5.setCell ⟨c, 3, none⟩ (.slice (some ⟨r, 0, none⟩) (n + 1) cap'))) := by
    have hz5 := hg5.size
    simp only [World.size_alloc] at hz5
    refine ⟨hC5.set 3 _, own_keep hO5 (fun b hb _ => Below.heap_setCell _ _ _ _ (by simp only [ne_eq]; omega)), hg5.os, hg5.tape, hg5.output, by simp [World.setCell]; omega, fun b hb hn => ?_⟩
    rw [Below.heap_setCell _ _ _ _ (fun e => hn (.inl e)), hg5.block b (by simp; omega) (fun e => hn (.inr (own_far HO.out b e.symm))), Below.heap_alloc _ _ _ hb]
  clear hC5 hg5 hO5 hcw HO HW HC h6 z6 s6 b6
  go_wp2
  go_end0
  exact ⟨rfl, ⟨_, _, HEND.out.1, HEND.out.2.1⟩, HEND.out.2.2⟩
end Go.Proofs.Qxb6614905a
