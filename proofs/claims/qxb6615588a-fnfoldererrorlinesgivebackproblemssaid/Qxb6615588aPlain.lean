import Derived.Test.Qxb6615588aText
namespace Go.Proofs.Qxb6615588a
open Go.RowKit

theorem joinTail_append (sep : List UInt8) (a b : List (List UInt8)) : Lib.joinTail sep (a ++ b) = Lib.joinTail sep a ++ Lib.joinTail sep b := by
  simp [Lib.joinTail]

theorem lens_sizes (ss : List ByteArray) : Lib.lens (ss.map (·.data.toList)) = sizes ss := by
  unfold Lib.lens sizes
  rw [List.map_map]
  congr 1

theorem join_length (ss : List ByteArray) : (Lib.join (ss.map (·.data.toList)) [10]).length ≤ sizes ss + ss.length := by
  cases ss with
  | nil => simp [Lib.join_nil]
  | cons x r =>
    rw [List.map_cons, Lib.join_cons, List.length_append, Lib.joinTail_length, lens_sizes]
    simp only [sizes, List.map_cons, List.sum_cons, List.length_map, List.length_cons, List.length_nil]
    have : x.data.toList.length = x.size := rfl
    omega

theorem joined_size (ss : List ByteArray) : (joined ss).size ≤ sizes ss + ss.length := by
  have h := join_length ss
  show (Lib.join (ss.map (·.data.toList)) [10]).toArray.size ≤ _
  simpa using h

theorem joined_nil : joined [] = ⟨#[]⟩ := rfl

theorem joined_one (x : ByteArray) : joined [x] = x := by
  unfold joined
  rw [List.map_cons, List.map_nil, Lib.join_one]

theorem joined_data (ss : List ByteArray) : (joined ss).data.toList = Lib.join (ss.map (·.data.toList)) [10] := by
  simp [joined]

theorem bytes_ext {a b : ByteArray} (h : a.data.toList = b.data.toList) : a = b := by
  cases a; cases b; simp at h; simp [h]

theorem joined_append (a b : List ByteArray) (ha : a ≠ []) (hb : b ≠ []) : joined (a ++ b) = joined a ++ ⟨#[10]⟩ ++ joined b := by
  apply bytes_ext
  rw [joined_data, ByteArray.data_append, ByteArray.data_append, Array.toList_append, Array.toList_append, joined_data, joined_data]
  match a, b, ha, hb with
  | x :: r, y :: t, _, _ =>
    rw [List.cons_append, List.map_cons, List.map_append, List.map_cons, Lib.join_cons, joinTail_append, Lib.join_cons, List.map_cons, Lib.join_cons]
    simp [Lib.joinTail, List.append_assoc]

theorem joined_cut_in (ss : List ByteArray) (c : Nat) (h0 : 0 < c) (h1 : c < ss.length) : joined (ss.take c) ++ ⟨#[10]⟩ ++ joined (ss.drop c) = joined ss := by
  rw [← joined_append, List.take_append_drop]
  · intro h; have := congrArg List.length h; rw [List.length_take, List.length_nil] at this; omega
  · intro h; have := congrArg List.length h; rw [List.length_drop, List.length_nil] at this; omega

theorem joined_cut_start (ss : List ByteArray) : joined (ss.take 0) ++ joined (ss.drop 0) = joined ss := by
  rw [List.take_zero, List.drop_zero, joined_nil]
  apply bytes_ext
  simp

theorem joined_cut_end (ss : List ByteArray) : joined (ss.take ss.length) ++ joined (ss.drop ss.length) = joined ss := by
  rw [List.take_length, List.drop_length, joined_nil]
  apply bytes_ext
  simp

/-- WHAT THE WALK IS TOLD OF A SLICE OF STRINGS THAT CAME IN: its strings, and where they lie if there is one. -/
structure IsTexts (w : World) (a : Option Addr) (len cap : Nat) (ss : List ByteArray) : Prop where
  num : ss.length = len
  room : len ≤ cap
  cells : 0 < len → ∃ b off, a = some ⟨b, off, none⟩ ∧ b < w.heap.size ∧ ∀ j, j < len → w.cell? ⟨b, off + j, none⟩ = some (.string (ss.getD j ByteArray.empty))

theorem bytes6_arg {a : Option Addr} {len cap : Nat} {ss : List ByteArray} {w : World} (h : IsTexts w a len cap ss) (cut : Int) :
    Calls Try.prog 6 #[.slice a len cap, .int .i64 cut] w fun e w' => Tells (len + sizes ss ≤ 1048576) e ∧ w = w' := by
  by_cases h0 : 0 < len
  · obtain ⟨b, off, rfl, _, hc⟩ := h.cells h0
    refine (bytes6_any b off len cap cut ss w (Nat.le_of_eq h.num.symm) hc).mono ?_
    rintro e w' ⟨ht, rfl⟩
    rw [← h.num, List.take_length, h.num] at ht
    exact ⟨ht, rfl⟩
  · obtain rfl : len = 0 := by omega
    obtain rfl : ss = [] := List.eq_nil_of_length_eq_zero h.num
    exact (bytes6_none a cap cut w).mono fun e w' ⟨he, hw⟩ => ⟨he ▸ tells_yes (by simp [sizes]), hw.symm⟩

theorem bytes9_arg {a : Option Addr} {len cap : Nat} {ss : List ByteArray} {w : World} (h : IsTexts w a len cap ss) :
    Calls Try.prog 9 #[.slice a len cap] w fun e w' => Tells (len + sizes ss ≤ 1048576) e ∧ w = w' := by
  by_cases h0 : 0 < len
  · obtain ⟨b, off, rfl, _, hc⟩ := h.cells h0
    refine (bytes9_any b off len cap ss w (Nat.le_of_eq h.num.symm) hc).mono ?_
    rintro e w' ⟨ht, rfl⟩
    rw [← h.num, List.take_length, h.num] at ht
    exact ⟨ht, rfl⟩
  · obtain rfl : len = 0 := by omega
    obtain rfl : ss = [] := List.eq_nil_of_length_eq_zero h.num
    exact (bytes9_none a cap w).mono fun e w' ⟨he, hw⟩ => ⟨he ▸ tells_yes (by simp [sizes]), hw.symm⟩

theorem fit7_arg {a : Option Addr} {len cap : Nat} {ss : List ByteArray} {w : World} (h : IsTexts w a len cap ss) (hl : len ≤ 4096) (hb : sizes ss ≤ 1048576) :
    Calls Try.prog 7 #[.slice a len cap] w fun e w' => Tells True e ∧ w = w' := by
  by_cases h0 : 0 < len
  · obtain ⟨b, off, rfl, _, hc⟩ := h.cells h0
    refine (fit7_any b off len cap ss w (Nat.le_of_eq h.num.symm) hl (by rw [← h.num, List.take_length]; exact hb) hc).mono ?_
    rintro e w' ⟨ht, rfl⟩
    exact ⟨ht, rfl⟩
  · obtain rfl : len = 0 := by omega
    exact (fit7_none a cap w).mono fun e w' ⟨he, hw⟩ => ⟨he ▸ tells_yes trivial, hw.symm⟩

/-- ZZfolderErrorText at a slice of strings, wherever it lies. -/
theorem text_arg {a : Option Addr} {len cap : Nat} {ss : List ByteArray} {w : World} (h : IsTexts w a len cap ss) (hl : len ≤ 4096) (hb : sizes ss ≤ 1048576) :
    Calls Try.prog 8 #[.slice a len cap] w fun e w' => e = .returned (.string (joined ss)) ∧ Below w.heap.size w w' := by
  have hn := h.num
  by_cases h0 : 0 < len
  · obtain ⟨b, off, rfl, hbl, hc⟩ := h.cells h0
    have := text_any b off cap ss w (by omega) hbl (by rw [h.num]; exact hc) (by have := join_length ss; omega)
    rw [h.num] at this
    exact this
  · obtain rfl : len = 0 := by omega
    obtain rfl : ss = [] := List.eq_nil_of_length_eq_zero hn
    exact text_none a cap w

end Go.Proofs.Qxb6615588a
