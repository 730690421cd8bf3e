import Derived.Test.Qxb6615588aPlain
import Derived.Laws.CopyOwn
import Derived.Deep.RegionHeld
namespace Go.Proofs.Qxb6615588a
open Go.RowKit

theorem size9 : (Try.prog.info? 9).map (·.size) = some 1 := by kernel_rfl

theorem own_heap {w : World} {base e n g : Nat} {xs : List Value} (h : w.ownsRow base e 1 (.slice (some ⟨g, 0, none⟩) n n) n xs) : w.heap[g]? = some (.cells xs.toArray e (0, 0)) := by
  rcases h.2 with ⟨h', _⟩ | ⟨g', cap', cur, h', _, hg, _, _, hsz, ht⟩
  · simp at h'
  · simp only [Value.slice.injEq, Option.some.injEq, Addr.mk.injEq, and_true, true_and] at h'
    obtain ⟨rfl, rfl⟩ := h'
    rw [hg, ← ht, List.take_of_length_le (by simp; omega)]

theorem splice_all {α : Type} (cur cs : List α) (h : cs.length = cur.length) : splice cur 0 cs = cs := by
  unfold splice
  rw [List.take_zero, List.nil_append, List.drop_eq_nil_of_le (by omega), List.append_nil]

theorem texts_here {w : World} {g : Nat} {ss : List ByteArray} (h : w.heap[g]? = some (.cells (ss.map Value.string).toArray 9 (0, 0))) :
    ∀ j, j < ss.length → w.cell? ⟨g, j, none⟩ = some (.string (ss.getD j ByteArray.empty)) := by
  intro j hj
  rw [cell_of_row w g j _ 9 (0, 0) h]
  simp [List.getElem?_eq_getElem hj]

theorem heap_lt {w : World} {g : Nat} {o : Obj} (h : w.heap[g]? = some o) : g < w.heap.size := (Array.getElem?_eq_some_iff.1 h).1

theorem getD_take (ss : List ByteArray) (c j : Nat) (h : j < c) : (ss.take c).getD j ByteArray.empty = ss.getD j ByteArray.empty := by
  simp [h]

theorem getD_drop (ss : List ByteArray) (c j : Nat) : (ss.drop c).getD j ByteArray.empty = ss.getD (c + j) ByteArray.empty := by
  simp [List.getElem?_drop]

theorem texts_whole {w : World} {g : Nat} {ss : List ByteArray} {n : Nat} (hn : ss.length = n) (h : w.heap[g]? = some (.cells (ss.map Value.string).toArray 9 (0, 0))) : IsTexts w (some ⟨g, 0, none⟩) n n ss :=
  ⟨hn, Nat.le_refl _, fun _ => ⟨g, 0, rfl, heap_lt h, fun j hj => by rw [Nat.zero_add]; exact texts_here h j (by omega)⟩⟩

theorem texts_left {w : World} {g : Nat} {ss : List ByteArray} {n c : Nat} (hn : ss.length = n) (hc : c ≤ n) (h : w.heap[g]? = some (.cells (ss.map Value.string).toArray 9 (0, 0))) : IsTexts w (some ⟨g, 0, none⟩) c n (ss.take c) :=
  ⟨by rw [List.length_take]; omega, hc, fun _ => ⟨g, 0, rfl, heap_lt h, fun j hj => by rw [Nat.zero_add, getD_take _ _ _ hj]; exact texts_here h j (by omega)⟩⟩

theorem texts_right {w : World} {g : Nat} {ss : List ByteArray} {n c : Nat} (hn : ss.length = n) (hc : c ≤ n) (h : w.heap[g]? = some (.cells (ss.map Value.string).toArray 9 (0, 0))) : IsTexts w (some ⟨g, c, none⟩) (n - c) (n - c) (ss.drop c) :=
  ⟨by rw [List.length_drop]; omega, Nat.le_refl _, fun _ => ⟨g, c, rfl, heap_lt h, fun j hj => by rw [getD_drop]; exact texts_here h (c + j) (by omega)⟩⟩

theorem texts_end {w : World} {a : Option Addr} {ss : List ByteArray} {n : Nat} (hn : ss.length = n) : IsTexts w a 0 0 (ss.drop n) :=
  ⟨by rw [List.length_drop]; omega, Nat.le_refl _, fun h => absurd h (by omega)⟩

/-- What copy asks of the source. -/
structure CopyFit (w1 : World) (a : Addr) (len : Nat) (ss : List ByteArray) (g : Nat) : Prop where
  num : (ss.map Value.string).length = Nat.min len len
  pos : 0 < (ss.map Value.string).length → (some (⟨g, 0, none⟩ : Addr)) = some ⟨g, 0, none⟩ ∧ ∃ ad, some a = some ad ∧ ∀ j v, (ss.map Value.string)[j]? = some v → w1.cell? (ad.add j) = some v
  one : ∀ v ∈ ss.map Value.string, v.oneCell' = true

theorem copy_fit {w w1 : World} {a : Addr} {len cap : Nat} {ss : List ByteArray} {g : Nat} (hI : IsTexts w (some a) len cap ss) (hb1 : Below w.heap.size w w1) : CopyFit w1 a len ss g where
  num := by rw [List.length_map, hI.num]; exact (Nat.min_self _).symm
  pos := by
    intro hpos
    rw [List.length_map, hI.num] at hpos
    obtain ⟨b, off, ha, hb, hc⟩ := hI.cells hpos
    simp only [Option.some.injEq] at ha
    refine ⟨rfl, a, rfl, ?_⟩
    intro j v hj
    obtain ⟨hjl, hjv⟩ := List.getElem?_eq_some_iff.1 hj
    rw [List.length_map] at hjl
    rw [ha, Go.WideShapes.add_plain, hb1.cell hb, hc j (by have := hI.num; omega), ← hjv]
    simp [List.getElem?_eq_getElem hjl]
  one := by intro v hv; obtain ⟨s, _, rfl⟩ := List.mem_map.1 hv; rfl

set_option maxHeartbeats 8000000 in
set_option maxRecDepth 100000 in
theorem joins_any (a : Addr) (len cap : Nat) (ss : List ByteArray) (cut : Int) (w : World) (hI : IsTexts w (some a) len cap ss) :
    Calls Try.prog 3 #[.slice (some a) len cap, .int .i64 cut] w fun e w' => e = .returned (.bool true) ∧ Below w.heap.size w w' := by
  obtain ⟨i0, hi, hz0, hz1, hz2⟩ := info_parts Try.info9
  have hq : ∀ (w : World) (a : Option Addr) (n c n' c' : Nat), (binOp .neq 22 (.slice a n c) (.slice none n' c')).run Try.prog w = .ok (.bool (!a.isNone)) w := fun w a n c n' c' => run_neq_slice_nil_any w _ _ a n c n' c' Try.underlying22
  go_enter Try.func3, Try.ntmps3
  go_wp2_with fail
  refine (bytes6_arg hI cut).mono ?_
  rintro e w' ⟨⟨r, rfl, hr⟩, rfl⟩
  cases r
  · clear hr
    go_wp2
    go_ret
    exact ⟨rfl, Below.refl _ _⟩
  have hr' := hr rfl
  clear hr
  by_cases hl : len ≤ 4096
  case neg =>
    go_wp2
    go_ret
    exact ⟨rfl, Below.refl _ _⟩
  go_wp2_with fail
  refine (fit7_arg hI hl (by omega)).mono ?_
  rintro e w' ⟨⟨r, rfl, _⟩, rfl⟩
  cases r
  · go_wp2
    go_ret
    exact ⟨rfl, Below.refl _ _⟩
  by_cases hc0 : cut < 0
  · go_wp2
    go_ret
    exact ⟨rfl, Below.refl _ _⟩
  by_cases hc1 : (len : Int) < cut
  · go_wp2
    go_ret
    exact ⟨rfl, Below.refl _ _⟩
  obtain ⟨c, rfl⟩ := Int.eq_ofNat_of_zero_le (by omega : 0 ≤ cut)
  have hcl : c ≤ len := by omega
  have hnum := hI.num
  go_wp2_with (first | (at_make; refine wpList_make_full _ rfl (.tmp 31) (.tmp 31) 22 rfl w.heap.size 9 i0 (.string ByteArray.empty) 1 Try.underlying22 hi hz0 hz1 .i64 .i64 len len len rfl rfl rfl rfl ?c1 ?c2 (Nat.le_refl _) ?_))
  case c1 => rw [hz2]; omega
  case c2 => unfold maxLen; omega
  intro w1 hown0 hgrow
  obtain ⟨cur, hown⟩ : ∃ cur, w1.ownsRow w.heap.size 9 1 (.slice (some ⟨w.heap.size, 0, none⟩) len len) len cur := ⟨_, hown0⟩
  clear hown0
  have hb1 : Below w.heap.size w w1 := (Below.refl _ _).grown hgrow (Nat.le_refl _) (by simp)
  have hheap := own_heap hown
  have hxl := hown.1
  have HC : Hid (CopyFit w1 a len ss w.heap.size) := copy_fit hI hb1
  clear hgrow hown
  go_wp2_with (first | (refine wpList_copy_splice rfl (.tmp 33) (.tmp 34) 22 22 rfl 9 Try.underlying22 size9 _ _ _ _ _ _ rfl rfl w.heap.size 0 cur 9 hheap (ss.map Value.string) HC.out.num HC.out.pos (by rw [List.length_map]; omega) HC.out.one w.heap.size w hb1 (Nat.le_refl _) ?_))
  intro w2 hw2 hb2
  have hw2' := hw2.out
  rw [splice_all _ _ (by rw [List.length_map]; omega)] at hw2'
  have H2 : Hid (w2.heap[w.heap.size]? = some (.cells (ss.map Value.string).toArray 9 (0, 0))) := hw2'
  clear hw2 hw2' hheap hxl hb1 HC
  have hsL : sizes (ss.take c) ≤ sizes ss := by have := sizes_split ss c; omega
  have hsR : sizes (ss.drop c) ≤ sizes ss := by have := sizes_split ss c; omega
  have hg2 := heap_lt H2.out
  go_wp2_with fail
  refine (text_arg (texts_whole hnum H2.out) hl (by omega)).mono ?_
  rintro e w3 ⟨rfl, hb3⟩
  have H3 : Hid (w3.heap[w.heap.size]? = some (.cells (ss.map Value.string).toArray 9 (0, 0))) := (hb3.block _ hg2).trans H2.out
  have hB3 := hb2.trans (hb3.mono hb2.size)
  have hg3 := heap_lt H3.out
  clear H2 hb2 hb3 hg2
  go_wp2_with fail
  refine (text_arg (texts_left hnum hcl H3.out) (by omega) (by omega)).mono ?_
  rintro e w4 ⟨rfl, hb4⟩
  have H4 : Hid (w4.heap[w.heap.size]? = some (.cells (ss.map Value.string).toArray 9 (0, 0))) := (hb4.block _ hg3).trans H3.out
  have hB4 := hB3.trans (hb4.mono hB3.size)
  have hg4 := heap_lt H4.out
  clear H3 hB3 hb4 hg3
  -- the tail: one text alone
  have hT : ∀ wx w5 : World, Below w.heap.size w w5 → wx.heap = w5.heap → wx.os = w5.os → wx.tape = w5.tape → wx.output = w5.output → w5.heap[w.heap.size]? = some (.cells (ss.map Value.string).toArray 9 (0, 0)) → 0 < len → Calls Try.prog 8 #[.slice (some ⟨w.heap.size, 0, none⟩) 1 len] wx fun e w' => e = .returned (.string (ss.getD 0 ByteArray.empty)) ∧ w'.cell? ⟨w.heap.size, 0, none⟩ = some (.string (ss.getD 0 ByteArray.empty)) ∧ Below w.heap.size w w' := by
    intro wx w5 hB hh h2 h3 h4 hc hp
    have hx : wx.heap[w.heap.size]? = some (.cells (ss.map Value.string).toArray 9 (0, 0)) := by rw [hh]; exact hc
    have hs1 : sizes (ss.take 1) ≤ sizes ss := by have := sizes_split ss 1; omega
    refine (text_arg (texts_left hnum (by omega) hx) (by omega) (by omega)).mono ?_
    rintro e w' ⟨rfl, hb⟩
    refine ⟨?_, (hb.cell (heap_lt hx)).trans (texts_here hx 0 (by omega)), ?_⟩
    · rw [show ss.take 1 = [ss.getD 0 ByteArray.empty] from ?_, joined_one]
      match ss, hnum with
      | [], h => simp at h; omega
      | x :: _, _ => rfl
    · have hBx : Below w.heap.size w wx := ⟨h2.trans hB.os, h3.trans hB.tape, h4.trans hB.output, by rw [hh]; exact hB.size, fun k hk => by rw [hh]; exact hB.block k hk⟩
      exact hBx.trans (hb.mono hBx.size)
  have HT := hT
  have HT' : Hid (∀ wx w5 : World, Below w.heap.size w w5 → wx.heap = w5.heap → wx.os = w5.os → wx.tape = w5.tape → wx.output = w5.output → w5.heap[w.heap.size]? = some (.cells (ss.map Value.string).toArray 9 (0, 0)) → 0 < len → Calls Try.prog 8 #[.slice (some ⟨w.heap.size, 0, none⟩) 1 len] wx fun e w' => e = .returned (.string (ss.getD 0 ByteArray.empty)) ∧ w'.cell? ⟨w.heap.size, 0, none⟩ = some (.string (ss.getD 0 ByteArray.empty)) ∧ Below w.heap.size w w') := hT
  clear hT HT
  have hjL := joined_size (ss.take c)
  have hjR := joined_size (ss.drop c)
  rw [List.length_take] at hjL
  rw [List.length_drop] at hjR
  have hzL : (joined (ss.take c)).size ≤ 2000000 := by omega
  have hzR : (joined (ss.drop c)).size ≤ 2000000 := by omega
  clear hjL hjR
  by_cases hend : c < len
  · have hne : ¬ len = c := by omega
    go_wp2_with fail
    refine (text_arg (texts_right hnum hcl H4.out) (by omega) (by omega)).mono ?_
    rintro e w5 ⟨rfl, hb5⟩
    have H5 : Hid (w5.heap[w.heap.size]? = some (.cells (ss.map Value.string).toArray 9 (0, 0))) := (hb5.block _ hg4).trans H4.out
    have hB5 := hB4.trans (hb5.mono hB4.size)
    have hc5 : w5.cell? ⟨w.heap.size, 0, none⟩ = some (.string (ss.getD 0 ByteArray.empty)) := texts_here H5.out 0 (by omega)
    have HX : Hid (∀ wx : World, wx.heap = w5.heap → wx.os = w5.os → wx.tape = w5.tape → wx.output = w5.output → Calls Try.prog 8 #[.slice (some ⟨w.heap.size, 0, none⟩) 1 len] wx fun e w' => e = .returned (.string (ss.getD 0 ByteArray.empty)) ∧ w'.cell? ⟨w.heap.size, 0, none⟩ = some (.string (ss.getD 0 ByteArray.empty)) ∧ Below w.heap.size w w') := fun wx h1 h2 h3 h4 => HT'.out wx w5 hB5 h1 h2 h3 h4 H5.out (by omega)
    generalize ss.getD 0 ByteArray.empty = s0 at *
    clear H4 hB4 hb5 hg4 HT' hsL hsR
    have hpos : 0 < len := by omega
    have hq0 : (s0.toList == s0.toList) = true := by simp
    by_cases h0 : 0 < c
    · have hJ : joined (ss.take c) ++ ⟨#[10]⟩ ++ joined (ss.drop c) = joined ss := joined_cut_in ss c h0 (by omega)
      have hcmp : ((joined ss).toList == (joined (ss.take c) ++ ⟨#[10]⟩ ++ joined (ss.drop c)).toList) = true := by rw [hJ]; simp
      clear hJ
      generalize joined (ss.take c) = L at *
      generalize joined (ss.drop c) = R at *
      generalize joined ss = W at *
      go_wp2_with fail
      go_region_held (fun w' => w'.cell? ⟨w.heap.size, 0, none⟩ = some (.string s0)) (go_keep) (first | (go_at_call 8; refine (HX.out _ (by rfl) (by rfl) (by rfl) (by rfl)).mono ?_; rintro e w6 ⟨rfl, hc6, hB6⟩))
      go_wp2
      go_ret
      exact ⟨rfl, hB6⟩
    · have hJ : joined (ss.take c) ++ joined (ss.drop c) = joined ss := by
        obtain rfl : c = 0 := by omega
        exact joined_cut_start ss
      have hcmp : ((joined ss).toList == (joined (ss.take c) ++ joined (ss.drop c)).toList) = true := by rw [hJ]; simp
      clear hJ
      generalize joined (ss.take c) = L at *
      generalize joined (ss.drop c) = R at *
      generalize joined ss = W at *
      go_wp2_with fail
      go_region_held (fun w' => w'.cell? ⟨w.heap.size, 0, none⟩ = some (.string s0)) (go_keep) (first | (go_at_call 8; refine (HX.out _ (by rfl) (by rfl) (by rfl) (by rfl)).mono ?_; rintro e w6 ⟨rfl, hc6, hB6⟩))
      go_wp2
      go_ret
      exact ⟨rfl, hB6⟩
  · obtain rfl : c = len := by omega
    go_wp2_with fail
    refine (text_arg (texts_end hnum) (by omega) (by omega)).mono ?_
    rintro e w5 ⟨rfl, hb5⟩
    have H5 : Hid (w5.heap[w.heap.size]? = some (.cells (ss.map Value.string).toArray 9 (0, 0))) := (hb5.block _ hg4).trans H4.out
    have hB5 := hB4.trans (hb5.mono hB4.size)
    have hJ : joined (ss.take c) ++ joined (ss.drop c) = joined ss := by
      have := joined_cut_end ss
      rw [hnum] at this
      exact this
    have hcmp : ((joined ss).toList == (joined (ss.take c) ++ joined (ss.drop c)).toList) = true := by rw [hJ]; simp
    clear hJ
    by_cases hpos : 0 < c
    · have hc5 : w5.cell? ⟨w.heap.size, 0, none⟩ = some (.string (ss.getD 0 ByteArray.empty)) := texts_here H5.out 0 (by omega)
      have HX : Hid (∀ wx : World, wx.heap = w5.heap → wx.os = w5.os → wx.tape = w5.tape → wx.output = w5.output → Calls Try.prog 8 #[.slice (some ⟨w.heap.size, 0, none⟩) 1 c] wx fun e w' => e = .returned (.string (ss.getD 0 ByteArray.empty)) ∧ w'.cell? ⟨w.heap.size, 0, none⟩ = some (.string (ss.getD 0 ByteArray.empty)) ∧ Below w.heap.size w w') := fun wx h1 h2 h3 h4 => HT'.out wx w5 hB5 h1 h2 h3 h4 H5.out (by omega)
      generalize ss.getD 0 ByteArray.empty = s0 at *
      clear H4 hB4 hb5 hg4 HT' hsL hsR
      have hq0 : (s0.toList == s0.toList) = true := by simp
      generalize joined (ss.take c) = L at *
      generalize joined (ss.drop c) = R at *
      generalize joined ss = W at *
      go_wp2_with fail
      go_region_held (fun w' => w'.cell? ⟨w.heap.size, 0, none⟩ = some (.string s0)) (go_keep) (first | (go_at_call 8; refine (HX.out _ (by rfl) (by rfl) (by rfl) (by rfl)).mono ?_; rintro e w6 ⟨rfl, hc6, hB6⟩))
      go_wp2
      go_ret
      exact ⟨rfl, hB6⟩
    · obtain rfl : c = 0 := by omega
      clear H4 hB4 hb5 hg4 HT' hsL hsR
      generalize joined (ss.take 0) = L at *
      generalize joined (ss.drop 0) = R at *
      generalize joined ss = W at *
      go_wp2_with fail
      go_region
      all_goals (go_wp2; go_ret; exact ⟨rfl, hB5.drew⟩)

set_option maxHeartbeats 8000000 in
set_option maxRecDepth 100000 in
/-- A nil slice. -/
theorem joins_nil (cut : Int) (w : World) :
    Calls Try.prog 3 #[.slice none 0 0, .int .i64 cut] w fun e w' => e = .returned (.bool true) ∧ Below w.heap.size w w' := by
  have hq : ∀ (w : World) (a : Option Addr) (n c n' c' : Nat), (binOp .neq 22 (.slice a n c) (.slice none n' c')).run Try.prog w = .ok (.bool (!a.isNone)) w := fun w a n c n' c' => run_neq_slice_nil_any w _ _ a n c n' c' Try.underlying22
  go_enter Try.func3, Try.ntmps3
  go_wp2_with fail
  refine (bytes6_none none 0 cut w).mono ?_
  rintro e w' ⟨rfl, hw⟩
  obtain rfl := hw.symm
  go_wp2_with fail
  refine (fit7_none none 0 w).mono ?_
  rintro e w2 ⟨rfl, hw⟩
  obtain rfl := hw.symm
  by_cases hc0 : cut < 0
  · go_wp2
    go_ret
    exact ⟨rfl, Below.refl _ _⟩
  by_cases hc1 : (0 : Int) < cut
  · go_wp2
    go_ret
    exact ⟨rfl, Below.refl _ _⟩
  obtain rfl : cut = 0 := by omega
  go_wp2_with fail
  refine (text_none none 0 w).mono ?_
  rintro e w3 ⟨rfl, hb3⟩
  go_wp2_with fail
  refine (text_none none 0 w3).mono ?_
  rintro e w4 ⟨rfl, hb4⟩
  have hB4 := hb3.trans (hb4.mono hb3.size)
  go_wp2_with fail
  refine (text_none none 0 w4).mono ?_
  rintro e w5 ⟨rfl, hb5⟩
  have hB5 := hB4.trans (hb5.mono hB4.size)
  have hcmp : ((joined []).toList == (joined [] ++ joined []).toList) = true := by
    have h := joined_cut_start []
    rw [List.take_zero, List.drop_zero] at h
    rw [h]
    simp
  have hz : (joined []).size ≤ 2000000 := by rw [joined_nil]; decide
  generalize joined [] = W at *
  go_wp2_with fail
  go_region
  all_goals (go_wp2; go_ret; exact ⟨rfl, hB5.drew⟩)

end Go.Proofs.Qxb6615588a
