import Derived.Test.Qxb6615588aPlain
namespace Go.Proofs.Qxb6615588a
open Go.RowKit

/-- Does a line end stand in it? -/
def nl (l : List UInt8) : Bool := l.any (· == 10)

/-- The pieces between line ends; 'cur' is what stands ahead of the list since the last one. -/
def pieces (cur : List UInt8) : List UInt8 → List (List UInt8)
  | [] => [cur]
  | c :: r => if c = 10 then cur :: pieces [] r else pieces (cur ++ [c]) r

theorem pieces_append (x : List UInt8) (hx : nl x = false) : ∀ (cur r : List UInt8), pieces cur (x ++ r) = pieces (cur ++ x) r := by
  induction x with
  | nil => intro cur r; simp
  | cons c x ih =>
    intro cur r
    simp only [nl, List.any_cons, Bool.or_eq_false_iff] at hx
    have hc : ¬ c = 10 := by simpa using hx.1
    rw [List.cons_append, pieces, if_neg hc, ih hx.2]
    simp

theorem pieces_join (xs : List (List UInt8)) (h0 : xs ≠ []) (hx : ∀ x ∈ xs, nl x = false) : pieces [] (Lib.join xs [10]) = xs := by
  induction xs with
  | nil => exact absurd rfl h0
  | cons x r ih =>
    cases r with
    | nil =>
      rw [Lib.join_one]
      have h := pieces_append x (hx x (by simp)) [] []
      rw [List.append_nil] at h
      rw [h]
      rfl
    | cons y t =>
      have hj : Lib.join (x :: y :: t) [10] = x ++ 10 :: Lib.join (y :: t) [10] := by
        rw [Lib.join_cons, Lib.join_cons]
        simp [Lib.joinTail]
      rw [hj, pieces_append x (hx x (by simp)), pieces, if_pos rfl, ih (by simp) (fun z hz => hx z (by simp [hz]))]
      rfl

theorem pieces_length (l : List UInt8) : ∀ cur, (pieces cur l).length ≤ l.length + 1 := by
  induction l with
  | nil => intro cur; simp [pieces]
  | cons c l ih =>
    intro cur
    rw [pieces]
    split
    · have := ih []
      simp only [List.length_cons]
      omega
    · have := ih (cur ++ [c])
      simp only [List.length_cons]
      omega

/-- A list of bytes as a string. -/
def str (l : List UInt8) : ByteArray := ⟨l.toArray⟩

theorem str_data (s : ByteArray) : str s.data.toList = s := by cases s; rfl

theorem nl_snoc (l : List UInt8) (c : UInt8) : nl (l ++ [c]) = (nl l || c == 10) := by simp [nl]

theorem take_snoc (s : ByteArray) (k : Nat) (h : k < s.size) : s.data.toList.take (k + 1) = s.data.toList.take k ++ [s[k]] := by
  rw [List.take_succ_eq_append_getElem (by simpa using h)]; rfl

theorem drop_cons (s : ByteArray) (k : Nat) (h : k < s.size) : s.data.toList.drop k = s[k] :: s.data.toList.drop (k + 1) := by
  rw [List.drop_eq_getElem_cons (by simpa using h)]; rfl

/-- The test on a byte, as the walk spells it. -/
theorem byte_ten (c : UInt8) : ((((c.toNat : Int)) == 10) = true ∧ (c == 10) = true) ∨ ((((c.toNat : Int)) == 10) = false ∧ (c == 10) = false) := by
  by_cases h : c = 10
  · subst h; left; exact ⟨rfl, rfl⟩
  · right
    refine ⟨?_, by simpa using h⟩
    rw [beq_eq_false_iff_ne]
    intro h'
    apply h
    apply UInt8.toNat_inj.1
    show c.toNat = 10
    omega

set_option maxHeartbeats 400000 in
theorem hasNL_any (s : ByteArray) (w : World) (hs : s.size ≤ 2000000) :
    Calls Try.prog 10 #[.string s] w fun e w' => e = .returned (.bool (nl s.data.toList)) ∧ w = w' := by
  go_enter Try.func10, Try.ntmps10
  go_wp2
  go_loop [3] (fun i => ∃ k : Nat, k ≤ s.size ∧ i = .int .i64 k ∧ nl (s.data.toList.take k) = false) (fun i => s.size - (intOf i).toNat)
  case atStart => exact ⟨0, Nat.zero_le _, rfl, rfl⟩
  case round =>
    obtain ⟨k, hk, rfl, hn⟩ := hrel
    have HN : Hid (nl (s.data.toList.take k) = false) := hn
    clear hn
    by_cases hlt : k < s.size
    · have HS : Hid (nl (s.data.toList.take (k + 1)) = (s[k] == 10)) := by
        show _ = _
        rw [take_snoc s k hlt, nl_snoc, HN.out, Bool.false_or]
      have HA : Hid (nl s.data.toList = true ∨ ¬ nl (s.data.toList.take (k + 1)) = true) := by
        show _ ∨ _
        by_cases h : nl (s.data.toList.take (k + 1)) = true
        · left
          unfold nl at h ⊢
          rw [List.any_eq_true] at h ⊢
          obtain ⟨x, hx, hx'⟩ := h
          exact ⟨x, List.mem_of_mem_take hx, hx'⟩
        · exact Or.inr h
      rcases byte_ten s[k] with ⟨h1, h2⟩ | ⟨h1, h2⟩
      · have HT : Hid (nl s.data.toList = true) := by
          rcases HA.out with h | h
          · exact h
          · rw [HS.out] at h; exact absurd h2 h
        clear HA HS h2
        go_wp2
        go_ret
        rw [HT.out]
        exact ⟨rfl, rfl⟩
      · have HF : Hid (nl (s.data.toList.take (k + 1)) = false) := by show _ = _; rw [HS.out, h2]
        clear HA HS h2
        go_wp2
        go_round
        case rel => exact ⟨k + 1, by omega, by go_num, HF.out⟩
        case measure => simp [intOf]; omega
    · go_wp2
      go_ret
      have : s.data.toList.take k = s.data.toList := List.take_of_length_le (by simp; omega)
      have h2 := HN.out
      rw [this] at h2
      rw [h2]
      exact ⟨rfl, rfl⟩

/-- What the splitting loop has done when it stands at k, the last line end's next place being st. -/
def Cut (s : ByteArray) (out : List ByteArray) (st k : Nat) : Prop :=
  out.map (·.data.toList) ++ pieces (s.extract st k).data.toList (s.data.toList.drop k) = pieces [] s.data.toList

theorem cut_start (s : ByteArray) : Cut s [] 0 0 := by
  unfold Cut
  rw [Lib.extract_data]
  simp

theorem extract_snoc (s : ByteArray) (st k : Nat) (h : st ≤ k) (hk : k < s.size) : (s.extract st (k + 1)).data.toList = (s.extract st k).data.toList ++ [s[k]] := by
  rw [Lib.extract_data, Lib.extract_data, show k + 1 - st = (k - st) + 1 by omega, List.take_succ_eq_append_getElem (by simp; omega)]
  congr 1
  simp only [List.getElem_drop, List.cons.injEq, and_true]
  rw [show s[k] = s.data.toList[k]'(by simpa using hk) from rfl]
  congr 1
  omega

theorem cut_plain {s : ByteArray} {out : List ByteArray} {st k : Nat} (h : Cut s out st k) (hst : st ≤ k) (hk : k < s.size) (hc : (s[k] == 10) = false) : Cut s out st (k + 1) := by
  unfold Cut at h ⊢
  rw [← h, extract_snoc s st k hst hk, drop_cons s k hk, pieces, if_neg (by simpa using hc)]

theorem cut_end {s : ByteArray} {out : List ByteArray} {st k : Nat} (h : Cut s out st k) (hk : k < s.size) (hc : (s[k] == 10) = true) : Cut s (out ++ [s.extract st k]) (k + 1) (k + 1) := by
  unfold Cut at h ⊢
  rw [← h, drop_cons s k hk, pieces, if_pos (by simpa using hc), List.map_append, List.append_assoc]
  congr 1
  rw [List.map_cons, List.map_nil, List.singleton_append]
  congr 2
  rw [Lib.extract_data, show k + 1 - (k + 1) = 0 by omega, List.take_zero]

theorem cut_last {s : ByteArray} {out : List ByteArray} {st : Nat} (h : Cut s out st s.size) : out ++ [s.extract st s.size] = (pieces [] s.data.toList).map str := by
  unfold Cut at h
  rw [← h, List.drop_eq_nil_of_le (by simp), pieces, List.map_append, List.map_map, List.map_cons, List.map_nil, str_data]
  congr 1
  rw [show (str ∘ fun x : ByteArray => x.data.toList) = id from funext str_data, List.map_id]

theorem own_ge {w : World} {base e n : Nat} {v : Value} {xs : List Value} (h : w.ownsRow base e 1 v n xs) : ∀ k, v.ownBlock = some k → base ≤ k := by
  intro k hk
  rcases h.2 with ⟨rfl, _⟩ | ⟨g, cap, cur, rfl, hg, _⟩
  · simp [Value.ownBlock] at hk
  · simp [Value.ownBlock] at hk
    omega

set_option maxHeartbeats 1600000 in
set_option maxRecDepth 100000 in
theorem split_any (s : ByteArray) (w : World) (hs : s.size ≤ 2000000) :
    Calls Try.prog 11 #[.string s] w fun e w' => ∃ v, e = .returned v ∧ w'.ownsRow w.heap.size 9 1 v ((pieces [] s.data.toList).map str).length (((pieces [] s.data.toList).map str).map Value.string) ∧ Below w.heap.size w w' := by
  obtain ⟨i0, hi, hz0, hz1, hz2⟩ := info_parts Try.info9
  go_enter Try.func11, Try.ntmps11
  go_wp2
  go_loopw [3, 4, 5] (fun v t i wr => ∃ (k st : Nat) (out : List ByteArray), k ≤ s.size ∧ st ≤ k ∧ out.length ≤ k ∧ i = .int .i64 k ∧ t = .int .i64 st ∧ wr.ownsRow w.heap.size 9 1 v out.length (out.map Value.string) ∧ Cut s out st k ∧ Below w.heap.size w wr)
    (fun _ _ i _ => s.size - (intOf i).toNat)
  case atStart => exact ⟨0, 0, [], Nat.zero_le _, Nat.le_refl _, Nat.le_refl _, rfl, rfl, World.ownsRow_nil _ _ _ _, cut_start s, Below.refl _ _⟩
  case round =>
    obtain ⟨k, st, out, hk, hst, hol, rfl, rfl, hown, hcut, hb⟩ := hrel
    by_cases hlt : k < s.size
    · rcases byte_ten s[k] with ⟨h1, h2⟩ | ⟨h1, h2⟩
      · have HC : Hid (Cut s (out ++ [s.extract st k]) (k + 1) (k + 1)) := cut_end hcut hlt h2
        clear hcut h2
        go_wp2_with (first | (at_builtin; refine wpList_append_own _ rfl (.tmp 16) (.tmp 21) 22 rfl w.heap.size 9 i0 (.string ByteArray.empty) 1 16 Try.underlying22 hi hz0 hz1 hz2 rfl (by decide) _ _ _ rfl (hown.alloc _) ⟨wr.heap.size, 0, none⟩ 1 1 [.string (s.extract st k)] rfl rfl ?c1 ?c2 ?c3 ?c4 ?c5 ?_))
        case c1 =>
          intro j u hj
          match j, hj with
          | 0, hj => simp at hj; subst hj; simp [Addr.add]
        case c2 => intro u hu; simp at hu; subst hu; rfl
        case c3 => unfold maxLen; omega
        case c4 => omega
        case c5 => have := hb.size; simp; omega
        intro v' w1 hown' hgrow _
        have hB1 : Below w.heap.size w w1 := (hb.alloc hb.size _).grown hgrow (by have := hb.size; simp; omega) (own_ge hown)
        have hown2 : w1.ownsRow w.heap.size 9 1 v' (out ++ [s.extract st k]).length ((out ++ [s.extract st k]).map Value.string) := by
          rw [List.map_append, List.length_append]; exact hown'
        clear hown' hgrow hown hb
        go_wp2
        go_roundw
        case rel => exact ⟨k + 1, k + 1, _, by omega, by omega, by rw [List.length_append]; simp; omega, by go_num, by go_num, hown2, HC.out, hB1⟩
        case measure => simp [intOf]; omega
      · have HC : Hid (Cut s out st (k + 1)) := cut_plain hcut hst hlt h2
        clear hcut h2
        go_wp2
        go_roundw
        case rel => exact ⟨k + 1, st, out, by omega, by omega, by omega, by go_num, rfl, hown, HC.out, hb⟩
        case measure => simp [intOf]; omega
    · obtain rfl : k = s.size := by omega
      have HC := cut_last hcut
      have HL : Hid (out ++ [s.extract st s.size] = (pieces [] s.data.toList).map str) := HC
      clear HC hcut
      go_wp2_with (first | (at_builtin; refine wpList_append_own _ rfl (.tmp 25) (.tmp 29) 22 rfl w.heap.size 9 i0 (.string ByteArray.empty) 1 16 Try.underlying22 hi hz0 hz1 hz2 rfl (by decide) _ _ _ rfl (hown.alloc _) ⟨wr.heap.size, 0, none⟩ 1 1 [.string (s.extract st s.size)] rfl rfl ?e1 ?e2 ?e3 ?e4 ?e5 ?_))
      case e1 =>
        intro j u hj
        match j, hj with
        | 0, hj => simp at hj; subst hj; simp [Addr.add]
      case e2 => intro u hu; simp at hu; subst hu; rfl
      case e3 => unfold maxLen; omega
      case e4 => omega
      case e5 => have := hb.size; simp; omega
      intro v' w1 hown' hgrow _
      have hB1 : Below w.heap.size w w1 := (hb.alloc hb.size _).grown hgrow (by have := hb.size; simp; omega) (own_ge hown)
      have hown2 : w1.ownsRow w.heap.size 9 1 v' (out ++ [s.extract st s.size]).length ((out ++ [s.extract st s.size]).map Value.string) := by
        rw [List.map_append, List.length_append]; exact hown'
      rw [HL.out] at hown2
      have HO : Hid (w1.ownsRow w.heap.size 9 1 v' ((pieces [] s.data.toList).map str).length (((pieces [] s.data.toList).map str).map Value.string)) := hown2
      clear hown' hgrow hown hb hown2
      go_wp2
      go_ret
      exact ⟨v', rfl, HO.out, hB1⟩

end Go.Proofs.Qxb6615588a
