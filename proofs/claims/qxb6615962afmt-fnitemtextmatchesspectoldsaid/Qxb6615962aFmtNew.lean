import Derived.Test.Qxb6615962aFmtItem
namespace Go.Proofs.Qxb6615962aFmt
open Go.RowKit Go.Shelf
set_option linter.unusedSimpArgs false

/-- The dates block while it is filled. -/
def filled (ms : List Nat) (p : ByteArray) (k : Nat) : List Value := mcells (ms.take k) ++ (List.replicate (12 - k) (.int .u64 0) ++ [.string p])

theorem filled_len (ms : List Nat) (p : ByteArray) (k : Nat) (hm : ms.length = 12) (hk : k ≤ 12) : (filled ms p k).length = 13 := by
  simp [filled, mcells, hm]; omega

theorem filled_step (ms : List Nat) (p : ByteArray) (k : Nat) (hm : ms.length = 12) (hk : k < 12) : (filled ms p k).set k (.int .u64 (nat0 ms k)) = filled ms p (k + 1) := by
  unfold filled mcells nat0
  have hl : ((ms.take k).map fun m : Nat => Value.int .u64 m).length = k := by simp [hm]; omega
  rw [List.set_append_right _ _ (by omega), hl, Nat.sub_self, show 12 - k = (12 - (k + 1)) + 1 by omega, List.replicate_succ, List.cons_append, List.set_cons_zero, List.take_succ_eq_append_getElem (by omega), List.map_append, List.append_assoc]
  simp [List.getElem?_eq_getElem (show k < ms.length by omega)]

theorem filled_end (ms : List Nat) (p : ByteArray) (hm : ms.length = 12) : filled ms p 12 = mcells ms ++ [.string p] := by
  unfold filled
  rw [List.take_of_length_le (by omega)]
  rfl

/-- The cells of clock ranges. -/
def tcells (tms : List (Nat × Nat)) : List Value := (tms.map fun x => [Value.int .i64 x.1, Value.int .i64 x.2]).flatten
theorem tcells_len (tms : List (Nat × Nat)) : (tcells tms).length = tms.length * 2 := by
  induction tms with
  | nil => rfl
  | cons a r ih => simp only [tcells, List.map_cons, List.flatten_cons, List.length_append, List.length_cons, List.length_nil] at ih ⊢; omega
theorem tcells_snoc (tms : List (Nat × Nat)) (x : Nat × Nat) : tcells (tms ++ [x]) = tcells tms ++ [.int .i64 x.1, .int .i64 x.2] := by
  simp [tcells]
theorem tcells_at : ∀ (tms : List (Nat × Nat)) (j : Nat), j < tms.length → (tcells tms)[j * 2]? = some (.int .i64 (tms.getD j (0, 0)).1) ∧ (tcells tms)[j * 2 + 1]? = some (.int .i64 (tms.getD j (0, 0)).2)
  | [], j, h => by simp at h
  | a :: r, 0, _ => by simp [tcells]
  | a :: r, j + 1, h => by
    have ih := tcells_at r j (by simp at h; omega)
    have e : tcells (a :: r) = [.int .i64 a.1, .int .i64 a.2] ++ tcells r := rfl
    rw [e, List.getElem?_append_right (by simp; omega), List.getElem?_append_right (by simp; omega)]
    simp only [List.length_cons, List.length_nil]
    rw [show (j + 1) * 2 - (0 + 1 + 1) = j * 2 by omega, show (j + 1) * 2 + 1 - (0 + 1 + 1) = j * 2 + 1 by omega]
    simpa using ih

theorem times_of_row {w : World} {base : Nat} {v : Value} {tms : List (Nat × Nat)} (h : w.ownsRow base 47 2 v tms.length (tcells tms)) : Times v tms w := by
  rcases h.2 with ⟨rfl, hn⟩ | ⟨g, cap, cur, rfl, _, hh, _, _, _, ht⟩
  · exact ⟨none, 0, by rw [hn], fun h0 => absurd h0 (by omega)⟩
  · refine ⟨_, cap, rfl, fun _ => ⟨g, rfl, (Array.getElem?_eq_some_iff.1 hh).1, fun j hj => ?_⟩⟩
    have hc : ∀ k, k < tms.length * 2 → w.cell? ⟨g, k, none⟩ = (tcells tms)[k]? := by
      intro k hk
      simp only [World.cell?, hh]
      rw [← Array.getElem?_toList, ← List.getElem?_take_of_lt hk, ht]
      rfl
    rw [hc _ (by omega), hc _ (by omega)]
    exact tcells_at tms j hj

theorem cell_new2 (W : World) (a b : Value) (t : TypeId) (s : Nat) (hs : W.heap.size = s) : ∀ j u, [a, b][j]? = some u → (W.alloc (.cells #[a, b] t)).cell? ((⟨s, 0, none⟩ : Addr).add j) = some u := by
  intro j u hj
  subst hs
  have h := (Blk.new W [a, b] t).cell j
  rw [show (⟨W.heap.size, 0, none⟩ : Addr).add j = ⟨W.heap.size, j, none⟩ by simp [Addr.add]; omega]
  exact h.trans hj

theorem row_shape {w : World} {base : Nat} {e : TypeId} {size : Nat} {v : Value} {n : Nat} {xs : List Value} (h : w.ownsRow base e size v n xs) : ∃ ao cap, v = .slice ao n cap := by
  rcases h.2 with ⟨rfl, hn⟩ | ⟨g, cap, cur, rfl, _⟩
  · exact ⟨none, 0, by rw [hn]⟩
  · exact ⟨_, _, rfl⟩

theorem info47 : (Tryf.prog.info? 47).map (fun i => (i.zero, i.size, i.bytes)) = some (some (.agg #[.int .i64 0, .int .i64 0]), 2, 16) := by kernel_rfl

set_option maxRecDepth 100000 in
set_option maxHeartbeats 4000000 in
theorem new_any (ms : List Nat) (p : ByteArray) (wd : Nat) (tv : Value) (tms : List (Nat × Nat)) (w : World) (hT : Times tv tms w) (h12 : ms.length = 12) (ht : tms.length ≤ 32768) :
    Calls Tryf.prog 8 #[.agg (mcells ms).toArray, .string p, .int .u64 wd, tv] w fun e w' => ∃ bC bD tv', e = .returned (.pointer (some ⟨bC, 0, none⟩)) ∧ Cl bC bD ms p wd tv' tms w' ∧ Below w.heap.size w w' := by
  obtain ⟨ao, cap, rfl, htc⟩ := hT
  have HT : Hid (0 < tms.length → ∃ g, ao = some ⟨g, 0, none⟩ ∧ g < w.heap.size ∧ ∀ j, j < tms.length → w.cell? ⟨g, j * 2, none⟩ = some (.int .i64 (tms.getD j (0, 0)).1) ∧ w.cell? ⟨g, j * 2 + 1, none⟩ = some (.int .i64 (tms.getD j (0, 0)).2)) := htc
  have hsz : (mcells ms).toArray.size = 12 := by simp [mcells, h12]
  clear htc
  obtain ⟨n, hn⟩ : ∃ n, tms.length = n := ⟨_, rfl⟩
  have HN : Hid (tms.length = n) := hn
  rw [hn] at HT ht ⊢
  clear hn
  go_enter Tryf.func8, Tryf.ntmps8
  go_wp2_with fail
  go_loopw [18] (fun i wr => ∃ j : Nat, j ≤ 12 ∧ i = .int .i64 j ∧ Blk wr (w.heap.size + 1) (filled ms p j) 44 ∧ Blk wr w.heap.size (mcells ms) 23 ∧ wr.heap.size = w.heap.size + 2 ∧ Below w.heap.size w wr)
    (fun i _ => 12 - (intOf i).toNat)
  case atStart =>
    refine ⟨0, Nat.zero_le _, rfl, ?_, (Blk.new w _ 23).alloc _, by simp, ((Below.refl _ _).alloc (Nat.le_refl _) _).alloc (by simp) _⟩
    have := Blk.new (w.alloc (.cells (mcells ms).toArray 23)) (filled ms p 0) 44
    rw [World.size_alloc] at this
    exact this
  case round =>
    obtain ⟨j, hj, rfl, hb44, hb23, hsz2, hbel⟩ := hrel
    by_cases hlt : j < 12
    · have hcm : wr.cell? ⟨w.heap.size, j, none⟩ = some (.int .u64 (nat0 ms j)) := by rw [hb23.cell j]; exact mcells_at ms j (by omega)
      have hcd := hb44.cell j
      obtain ⟨u, hu⟩ : ∃ u, (filled ms p j)[j]? = some u := ⟨_, List.getElem?_eq_getElem (by rw [filled_len _ _ _ h12 hj]; omega)⟩
      rw [hu] at hcd
      have hfd := hb44.frozen j
      have HS := hb44.set j (.int .u64 (nat0 ms j))
      rw [filled_step ms p j h12 hlt] at HS
      have HS' : Hid (Blk (wr.setCell ⟨w.heap.size + 1, j, none⟩ (.int .u64 (nat0 ms j))) (w.heap.size + 1) (filled ms p (j + 1)) 44) := HS
      have HR : Hid (Blk wr w.heap.size (mcells ms) 23 ∧ wr.heap.size = w.heap.size + 2 ∧ Below w.heap.size w wr) := ⟨hb23, hsz2, hbel⟩
      clear hu HS hb44 hb23 hsz2 hbel
      generalize nat0 ms j = x at *
      go_wp2_with fail
      go_region
      all_goals
        go_wp2
        go_roundw
        case rel =>
          obtain ⟨h1, h3, h4⟩ := HR.out
          exact ⟨j + 1, by omega, by go_num, HS'.out.drew, (h1.other _ _ (by simp)).drew, by simp [World.setCell]; exact h3, (h4.setCell (by simp) _).drew⟩
        case measure => simp [intOf] <;> omega
    · obtain rfl : j = 12 := by omega
      rw [filled_end _ _ h12] at hb44
      have HR : Hid (Blk wr (w.heap.size + 1) (mcells ms ++ [.string p]) 44 ∧ wr.heap.size = w.heap.size + 2 ∧ Below w.heap.size w wr) := ⟨hb44, hsz2, hbel⟩
      clear hb44 hb23 hsz2 hbel
      generalize wr = w1 at *
      obtain ⟨i0, hj0, hj1, hj2, hj3⟩ := info_parts info47
      go_wp2_with fail
      go_loopw [11, 32] (fun r k wr => ∃ i : Nat, k = .int .i64 i ∧ i ≤ n ∧ wr.ownsRow w1.heap.size 47 2 r i (tcells (tms.take i)) ∧ Below w1.heap.size w1 wr) (fun _ k _ => n - (intOf k).toNat)
      case atStart => exact ⟨0, rfl, Nat.zero_le _, World.ownsRow_nil _ _ _ _, Below.refl _ _⟩
      case round =>
        obtain ⟨i, rfl, hi, hrow, hbel⟩ := hrel
        by_cases hlt : i < n
        · obtain ⟨g, rfl, hg, hcell⟩ := HT.out (by omega)
          have hcell := hcell i hlt
          obtain ⟨x, hx⟩ : ∃ x, tms.getD i (0, 0) = x := ⟨_, rfl⟩
          rw [hx] at hcell
          obtain ⟨xs, xe⟩ := x
          dsimp only at hcell
          have hbw : Below w.heap.size w wr := HR.out.2.2.trans (hbel.mono HR.out.2.2.size)
          have r0 : wr.cell? ⟨g, i * 2, none⟩ = some (.int .i64 xs) := (hbw.cell (p := ⟨g, i * 2, none⟩) hg).trans hcell.1
          have r1 : wr.cell? ⟨g, i * 2 + 1, none⟩ = some (.int .i64 xe) := (hbw.cell (p := ⟨g, i * 2 + 1, none⟩) hg).trans hcell.2
          have HX : Hid (tcells (tms.take (i + 1)) = tcells (tms.take i) ++ [.int .i64 xs, .int .i64 xe] ∧ wr.ownsRow w1.heap.size 47 2 u11 i (tcells (tms.take i)) ∧ Below w1.heap.size w1 wr) := by
            refine ⟨?_, hrow, hbel⟩
            have hil : i < tms.length := by have := HN.out; omega
            have e : tms.getD i (0, 0) = tms[i] := by simp [List.getD, hil]
            rw [List.take_succ_eq_append_getElem hil, tcells_snoc, ← e, hx]
          clear hcell hx hrow hbel hbw
          have hbs := HX.out.2.2.size
          go_wp2_with (at_builtin; refine wpList_append_own _ rfl _ _ 45 rfl w1.heap.size 47 i0 (.agg #[.int .i64 0, .int .i64 0]) 2 16 Tryf.underlying45 hj0 hj1 hj2 hj3 rfl (by decide) u11 i _ rfl ((HX.out.2.1.alloc _).alloc _) ⟨wr.heap.size + 1, 0, none⟩ 1 1 [.int .i64 xs, .int .i64 xe] rfl rfl (cell_new2 _ _ _ _ _ (by simp)) (by simp [Value.oneCell']) (by unfold maxLen; omega) (by omega) (by simp; omega) ?_; intro v' w4 hown' hgrow hnil)
          have HF : Hid (w4.ownsRow w1.heap.size 47 2 v' (i + 1) (tcells (tms.take i) ++ [.int .i64 xs, .int .i64 xe]) ∧ Below w1.heap.size w1 w4) := by
            refine ⟨hown', ?_⟩
            exact ((HX.out.2.2.alloc hbs _).alloc (by simp; omega) _).grown hgrow (by simp; omega) (fun k hk => (HX.out.2.1.lt k hk).1)
          clear hown' hgrow hnil
          go_wp2
          go_roundw
          case rel =>
            have R : ∃ i' : Nat, Value.int .i64 ((i : Int) + 1) = .int .i64 i' ∧ i' ≤ n ∧ w4.ownsRow w1.heap.size 47 2 v' i' (tcells (tms.take i')) ∧ Below w1.heap.size w1 w4 := ⟨i + 1, by go_num, by omega, by rw [HX.out.1]; exact HF.out.1, HF.out.2⟩
            first | exact R | ((repeat apply Exists.intro); exact ⟨R, rfl⟩)
          case measure => simp [intOf] <;> omega
        · obtain rfl : i = n := by omega
          obtain ⟨ao', cap', rfl⟩ := row_shape hrow
          have HX : Hid (wr.ownsRow w1.heap.size 47 2 (.slice ao' i cap') i (tcells (tms.take i)) ∧ Below w1.heap.size w1 wr) := ⟨hrow, hbel⟩
          clear hrow hbel
          go_wp2
          go_ret
          obtain ⟨hrow, hbel⟩ := HX.out
          have hn := HN.out
          rw [List.take_of_length_le (by omega), ← hn] at hrow
          have hnew := Blk.new wr [.string ⟨#[]⟩, .string ⟨#[]⟩, .pointer (some ⟨w.heap.size + 1, 0, none⟩), .int .u64 wd, .slice ao' i cap'] 49
          have hbn : Below wr.heap.size wr (wr.alloc (.cells #[.string ⟨#[]⟩, .string ⟨#[]⟩, .pointer (some ⟨w.heap.size + 1, 0, none⟩), .int .u64 wd, .slice ao' i cap'] 49)) := (Below.refl _ _).alloc (Nat.le_refl _) _
          refine ⟨wr.heap.size, w.heap.size + 1, .slice ao' i cap', rfl, ⟨hnew, ?_, ?_⟩, ?_⟩
          · exact (HR.out.1.below hbel HR.out.1.lt).alloc _
          · rw [hn] at hrow
            exact (times_of_row (by rw [hn]; exact hrow)).below hbn
          · exact HR.out.2.2.trans ((hbel.mono HR.out.2.2.size).trans (hbn.mono (Nat.le_trans HR.out.2.2.size hbel.size)))
end Go.Proofs.Qxb6615962aFmt
