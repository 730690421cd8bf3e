import Derived.Test.Qxb6615588aJoins
import Derived.Test.Qxb6615588aLines
import Derived.Deep.QuietTactic
import Derived.BigQuiet
namespace Go.Proofs.Qxb6615588a
open Go.RowKit

theorem size_le_sizes (ss : List ByteArray) (k : Nat) (h : k < ss.length) : (ss.getD k ByteArray.empty).size ≤ sizes ss := by
  have h1 := sizes_succ ss k h
  have h2 := sizes_split ss (k + 1)
  omega

theorem parts_back (ss : List ByteArray) (h0 : 0 < ss.length) (hx : ∀ j, j < ss.length → nl (ss.getD j ByteArray.empty).data.toList = false) : (pieces [] (joined ss).data.toList).map str = ss := by
  rw [joined_data, pieces_join]
  · rw [List.map_map, show (str ∘ fun x : ByteArray => x.data.toList) = id from funext str_data, List.map_id]
  · intro h
    have := congrArg List.length h
    rw [List.length_map, List.length_nil] at this
    omega
  · intro x hx'
    obtain ⟨s, hs, rfl⟩ := List.mem_map.1 hx'
    obtain ⟨j, hj⟩ := List.getElem?_of_mem hs
    have h1 := (List.getElem?_eq_some_iff.1 hj).1
    have h2 := hx j h1
    rw [List.getD, hj] at h2
    exact h2

theorem own_shape {w : World} {base e n : Nat} {v : Value} {xs : List Value} (h : w.ownsRow base e 1 v n xs) (hn : 0 < n) : ∃ g cap, v = .slice (some ⟨g, 0, none⟩) n cap := by
  rcases h.2 with ⟨_, h0⟩ | ⟨g, cap, cur, rfl, _⟩
  · omega
  · exact ⟨g, cap, rfl⟩

set_option maxHeartbeats 8000000 in
set_option maxRecDepth 100000 in
theorem back_any (a : Addr) (len cap : Nat) (ss : List ByteArray) (w : World) (hI : IsTexts w (some a) len cap ss) :
    Calls Try.prog 4 #[.slice (some a) len cap] w fun e w' => e = .returned (.bool true) ∧ Below w.heap.size w w' := by
  obtain ⟨i0, hi, hz0, hz1, hz2⟩ := info_parts Try.info9
  have hq : ∀ (w : World) (a : Option Addr) (n c n' c' : Nat), (binOp .neq 22 (.slice a n c) (.slice none n' c')).run Try.prog w = .ok (.bool (!a.isNone)) w := fun w a n c n' c' => run_neq_slice_nil_any w _ _ a n c n' c' Try.underlying22
  go_enter Try.func4, Try.ntmps4
  go_wp2_with fail
  refine (bytes9_arg hI).mono ?_
  rintro e w' ⟨⟨r, rfl, hr⟩, rfl⟩
  cases r
  · clear hr
    go_wp2
    go_ret
    exact ⟨rfl, Below.refl _ _⟩
  have hr' := hr rfl
  clear hr
  by_cases hl : len ≤ 4096
  case neg =>
    go_wp2
    go_ret
    exact ⟨rfl, Below.refl _ _⟩
  go_wp2_with fail
  refine (fit7_arg hI hl (by omega)).mono ?_
  rintro e w' ⟨⟨r, rfl, _⟩, rfl⟩
  cases r
  · go_wp2
    go_ret
    exact ⟨rfl, Below.refl _ _⟩
  have hnum := hI.num
  go_wp2_with (first | (at_make; refine wpList_make_full _ rfl (.tmp 20) (.tmp 20) 22 rfl w.heap.size 9 i0 (.string ByteArray.empty) 1 Try.underlying22 hi hz0 hz1 .i64 .i64 len len len rfl rfl rfl rfl ?c1 ?c2 (Nat.le_refl _) ?_))
  case c1 => rw [hz2]; omega
  case c2 => unfold maxLen; omega
  intro w1 hown0 hgrow
  obtain ⟨cur, hown⟩ : ∃ cur, w1.ownsRow w.heap.size 9 1 (.slice (some ⟨w.heap.size, 0, none⟩) len len) len cur := ⟨_, hown0⟩
  clear hown0
  have hb1 : Below w.heap.size w w1 := (Below.refl _ _).grown hgrow (Nat.le_refl _) (by simp)
  have hheap := own_heap hown
  have hxl := hown.1
  have HC : Hid (CopyFit w1 a len ss w.heap.size) := copy_fit hI hb1
  clear hgrow hown
  go_wp2_with (first | (refine wpList_copy_splice rfl (.tmp 22) (.tmp 23) 22 22 rfl 9 Try.underlying22 size9 _ _ _ _ _ _ rfl rfl w.heap.size 0 cur 9 hheap (ss.map Value.string) HC.out.num HC.out.pos (by rw [List.length_map]; omega) HC.out.one w.heap.size w hb1 (Nat.le_refl _) ?_))
  intro w2 hw2 hb2
  have hw2' := hw2.out
  rw [splice_all _ _ (by rw [List.length_map]; omega)] at hw2'
  have H2 : Hid (w2.heap[w.heap.size]? = some (.cells (ss.map Value.string).toArray 9 (0, 0))) := hw2'
  clear hw2 hw2' hheap hxl hb1 HC
  go_wp2
  go_loopw [4] (fun i wr => ∃ k : Nat, k ≤ len ∧ i = .int .i64 k ∧ (∀ j, j < k → nl (ss.getD j ByteArray.empty).data.toList = false) ∧ w2 = wr)
    (fun i _ => len - (intOf i).toNat)
  case atStart => exact ⟨0, Nat.zero_le _, rfl, by intro j hj; omega, rfl⟩
  case round =>
    obtain ⟨k, hk, rfl, hn, rfl⟩ := hrel
    have HN : Hid (∀ j, j < k → nl (ss.getD j ByteArray.empty).data.toList = false) := hn
    clear hn
    by_cases hlt : k < len
    · have hc := texts_here H2.out k (by omega)
      have hz := size_le_sizes ss k (by omega)
      have hstep : nl (ss.getD k ByteArray.empty).data.toList = false → ∀ j, j < k + 1 → nl (ss.getD j ByteArray.empty).data.toList = false := by
        intro h j hj
        by_cases hjk : j = k
        · rw [hjk]; exact h
        · exact HN.out j (by omega)
      have HS : Hid (nl (ss.getD k ByteArray.empty).data.toList = false → ∀ j, j < k + 1 → nl (ss.getD j ByteArray.empty).data.toList = false) := hstep
      clear hstep HN
      generalize ss.getD k ByteArray.empty = s at hc hz HS
      cases hnl : nl s.data.toList
      · go_wp2_with (go_at_call 10; refine (hasNL_any _ _ (by omega)).mono ?_; rintro e w' ⟨rfl, rfl⟩)
        go_roundw
        case rel => exact ⟨k + 1, by omega, by go_num, HS.out hnl, by trivial⟩
        case measure => simp [intOf]; omega
      · go_wp2_with (go_at_call 10; refine (hasNL_any _ _ (by omega)).mono ?_; rintro e w' ⟨rfl, rfl⟩)
        go_ret
        exact ⟨rfl, hb2⟩
    · obtain rfl : k = len := by omega
      go_wp2_with fail
      refine (text_arg (texts_whole hnum H2.out) hl (by omega)).mono ?_
      rintro e w3 ⟨rfl, hb3⟩
      have hg2 := heap_lt H2.out
      have H3 : Hid (w3.heap[w.heap.size]? = some (.cells (ss.map Value.string).toArray 9 (0, 0))) := (hb3.block _ hg2).trans H2.out
      have hB3 := hb2.trans (hb3.mono hb2.size)
      have hg3 := heap_lt H3.out
      clear H2 hb2 hb3 hg2
      by_cases h0 : 0 < k
      case neg =>
        obtain rfl : k = 0 := by omega
        obtain rfl : ss = [] := List.eq_nil_of_length_eq_zero hnum
        rw [joined_nil]
        go_wp2
        go_ret
        exact ⟨rfl, hB3⟩
      have hJ := joined_size ss
      have hP := parts_back ss (by omega) (by rw [hnum]; exact HN.out)
      have hS := split_any (joined ss) w3 (by omega)
      rw [hP, hnum] at hS
      have HS : Hid (Calls Try.prog 11 #[.string (joined ss)] w3 fun e w' => ∃ v, e = .returned v ∧ w'.ownsRow w3.heap.size 9 1 v k (ss.map Value.string) ∧ Below w3.heap.size w3 w') := hS
      clear hS hP hJ HN
      generalize joined ss = W at *
      go_wp2_with fail
      refine HS.out.mono ?_
      rintro e w4 ⟨v, rfl, hown, hb4⟩
      obtain ⟨g, cp, hv⟩ := own_shape hown h0
      subst hv
      have hB4 := hB3.trans (hb4.mono hB3.size)
      have H4 : Hid (w4.heap[w.heap.size]? = some (.cells (ss.map Value.string).toArray 9 (0, 0))) := (hb4.block _ hg3).trans H3.out
      clear H3 hB3 hb4 hg3 HS
      have HX : Hid (∀ j, j < k → w4.cell? ⟨g, j, none⟩ = some (.string (ss.getD j ByteArray.empty)) ∧ w4.cell? ⟨w.heap.size, j, none⟩ = some (.string (ss.getD j ByteArray.empty))) := by
        intro j hj
        refine ⟨?_, texts_here H4.out j (by omega)⟩
        rw [hown.cellAt j (by omega)]
        simp [List.getElem?_eq_getElem (show j < ss.length by omega)]
      clear hown H4
      go_wp2
      go_loopw [7] (fun i wr => ∃ j q : Nat, j ≤ k ∧ i = .int .i64 j ∧ wr = w4.drewN q)
        (fun i _ => k - (intOf i).toNat)
      case atStart => exact ⟨0, 0, Nat.zero_le _, rfl, rfl⟩
      case round =>
        obtain ⟨j, q, hj, rfl, rfl⟩ := hrel
        by_cases hlt2 : j < k
        · obtain ⟨hx1, hx2⟩ := HX.out j hlt2
          generalize ss.getD j ByteArray.empty = s at hx1 hx2
          have hq0 : (s.toList == s.toList) = true := by simp
          go_wp2_with fail
          go_quiet (fail)
          go_wp2
          go_roundw
          case rel => exact ⟨j + 1, _, by omega, by go_num, rfl⟩
          case measure => simp [intOf]; omega
        · go_wp2
          go_ret
          exact ⟨rfl, below_drewN hB4 _⟩

set_option maxHeartbeats 1000000 in
set_option maxRecDepth 100000 in
/-- A nil slice. -/
theorem back_nil (w : World) :
    Calls Try.prog 4 #[.slice none 0 0] w fun e w' => e = .returned (.bool true) ∧ Below w.heap.size w w' := by
  have hq : ∀ (w : World) (a : Option Addr) (n c n' c' : Nat), (binOp .neq 22 (.slice a n c) (.slice none n' c')).run Try.prog w = .ok (.bool (!a.isNone)) w := fun w a n c n' c' => run_neq_slice_nil_any w _ _ a n c n' c' Try.underlying22
  go_enter Try.func4, Try.ntmps4
  go_wp2_with fail
  refine (bytes9_none none 0 w).mono ?_
  rintro e w' ⟨rfl, hw⟩
  obtain rfl := hw.symm
  go_wp2_with fail
  refine (fit7_none none 0 w).mono ?_
  rintro e w2 ⟨rfl, hw⟩
  obtain rfl := hw.symm
  go_wp2
  refine wp_loop_rounds 1 ?_
  rw [rounds_succ]
  go_wp2_with fail
  refine (text_none none 0 w).mono ?_
  rintro e w3 ⟨rfl, hb3⟩
  rw [joined_nil]
  go_wp2
  go_ret
  exact ⟨rfl, hb3⟩

end Go.Proofs.Qxb6615588a
