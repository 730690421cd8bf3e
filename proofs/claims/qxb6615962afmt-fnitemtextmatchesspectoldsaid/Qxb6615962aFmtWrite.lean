import Derived.Test.Qxb6615962aFmtTexts
import Derived.Test.Qxb6615962aFmtShelf
namespace Go.Proofs.Qxb6615962aFmt
open Go.RowKit Go.Shelf

/-- The slice v holds the strings ts. -/
def Strs (v : Value) (ts : List (List UInt8)) (w : World) : Prop := ∃ base, w.ownsRow base 9 1 v ts.length (ts.map sv)

theorem Bld.block {B b : Nat} {bs : List UInt8} {w : World} (h : Bld B b bs w) : ∃ c, w.heap[b]? = some (.cells c 58 (0, 0)) := by
  rcases h.1 with ⟨_, v, hb, _⟩ | ⟨_, v, hb, _⟩
  · exact ⟨_, hb⟩
  · exact ⟨_, hb⟩

theorem Strs.kept {v : Value} {ts : List (List UInt8)} {w w' : World} {B b : Nat} {bs : List UInt8} (h : Strs v ts w) (hb : Bld B b bs w) (hk : Kb B b w w') : Strs v ts w' := by
  obtain ⟨base, h1, h2 | ⟨g, cap, cur, hv, hg, hh, hr⟩⟩ := h
  · exact ⟨base, h1, .inl h2⟩
  · refine ⟨base, h1, .inr ⟨g, cap, cur, hv, hg, hk.2 g _ hh ?_ (by intro c fz he; simp at he), hr⟩⟩
    intro e
    obtain ⟨c, hc⟩ := hb.block
    simp only [Option.some.injEq] at e
    subst e
    rw [hh] at hc
    simp at hc

theorem Bld.below {B b : Nat} {bs : List UInt8} {w w' : World} (h : Bld B b bs w) (hb : Below w.heap.size w w') : Bld B b bs w' := by
  refine ⟨?_, Nat.le_trans h.2 hb.size⟩
  have key : ∀ p, Lib.BuilderAtF 58 5 B b p (bc bs) w → Lib.BuilderAtF 58 5 B b p (bc bs) w' := by
    rintro p ⟨hB, v, hbk, hown, hne⟩
    refine ⟨hB, v, (hb.block b (Array.getElem?_eq_some_iff.1 hbk).1).trans hbk, ?_, hne⟩
    refine hown.kept (row := none) ⟨hb.os, hb.tape, hb.output, hb.size, fun k hk _ => hb.block k hk⟩ ?_
    cases v.ownBlock with
    | none => exact .inl rfl
    | some k => exact .inr (by simp)
  rcases h.1 with h1 | h1
  · exact .inl (key _ h1)
  · exact .inr (key _ h1)

/-- strings.Join at ", ". -/
theorem join_strs (v : Value) (ts : List (List UInt8)) (w : World) (h : Strs v ts w) (hN : ts.length ≤ 1000000) (hlen : (Lib.join ts [44, 32]).length ≤ 140737488355328) :
    Calls Tryf.prog 36 #[v, .string ⟨#[44, 32]⟩] w fun e w' => e = .returned (sv (Lib.join ts [44, 32])) ∧ Below w.heap.size w w' := by
  obtain ⟨base, h1, ⟨rfl, hn⟩ | ⟨g, cap, cur, rfl, hg, hh, hle, _, _, ht⟩⟩ := h
  · obtain rfl : ts = [] := List.length_eq_zero_iff.1 hn
    refine (join_none none 0 w).mono ?_
    rintro e w' ⟨rfl, rfl⟩
    exact ⟨rfl, Below.refl _ _⟩
  · have e1 : (ts.map fun t => (⟨t.toArray⟩ : ByteArray)).map (·.data.toList) = ts := by
      rw [List.map_map]; exact (List.map_congr_left fun t _ => by simp).trans (List.map_id' ts)
    have e2 : (ts.map fun t => (⟨t.toArray⟩ : ByteArray)).length = ts.length := List.length_map _
    have h := join_any g cap (ts.map fun t => (⟨t.toArray⟩ : ByteArray)) w ?_ (Array.getElem?_eq_some_iff.1 hh).1 (by rw [e2]; omega) (by rw [e2]; exact hle) (by rw [e1]; exact hlen)
    · rw [e1, e2] at h
      exact h
    · intro j x hj
      rw [List.getElem?_map] at hj
      have hjl : j < ts.length := by
        rcases Nat.lt_or_ge j ts.length with hl | hl
        · exact hl
        · rw [List.getElem?_eq_none hl] at hj; cases hj
      have hc : cur[j]? = (ts.map sv)[j]? := by
        rw [← Array.getElem?_toList, ← ht, List.getElem?_take_of_lt (by omega)]
      simp only [World.cell?, hh]
      rw [hc, List.getElem?_map]
      cases hq : ts[j]? with
      | none => rw [hq] at hj; cases hj
      | some t => rw [hq] at hj; cases hj; rfl

def setT (word : List UInt8) (ts : List (List UInt8)) : List UInt8 := [32] ++ ((if word = [] then [] else word ++ [32]) ++ ([123, 32] ++ (Lib.join ts [44, 32] ++ [32, 125])))

set_option maxRecDepth 100000 in
set_option maxHeartbeats 1000000 in
theorem writeSet_any (B b : Nat) (bs word : List UInt8) (ts : List (List UInt8)) (v : Value) (w : World) (hb : Bld B b bs w) (hv : Strs v ts w) (hw : word.length ≤ 100) (hN : ts.length ≤ 1000000) (hlen : bs.length + 200 + (Lib.join ts [44, 32]).length ≤ 100000000) :
    Calls Tryf.prog 22 #[.pointer (some ⟨b, 0, none⟩), sv word, v] w fun e w' => e = .returned (.tuple #[]) ∧ Bld B b (bs ++ setT word ts) w' ∧ Below B w w' := by
  unfold sv
  go_enter Tryf.func22, Tryf.ntmps22
  go_wp2_with fail
  refine (wb_any B b bs 32 w hb (by omega)).mono ?_
  rintro e w1 ⟨rfl, hb1, hk1⟩
  have hv1 := hv.kept hb hk1
  by_cases hw0 : word = []
  · subst hw0
    go_wp2_with fail
    refine (join_strs v ts w1 hv1 hN (by omega)).mono ?_
    rintro e w3 ⟨rfl, hb3⟩
    have hB3 := hb1.below hb3
    unfold sv
    have HJ : Hid ((Lib.join ts [44, 32]).length ≤ 100000000) := show (Lib.join ts [44, 32]).length ≤ 100000000 by omega
    obtain ⟨jt, hjt⟩ : ∃ jt, Lib.join ts [44, 32] = jt := ⟨_, rfl⟩
    rw [hjt] at HJ hlen ⊢
    have hjl : jt.length ≤ 100000000 := HJ.out
    have HT : Hid (Lib.join ts [44, 32] = jt) := hjt
    clear hjt
    go_wp2_with fail
    rw [show (⟨#[123, 32]⟩ : ByteArray) = ⟨[123, 32].toArray⟩ from rfl, show (⟨#[32, 125]⟩ : ByteArray) = ⟨[32, 125].toArray⟩ from rfl, sv_cat, sv_cat]
    refine (ws_any B b _ _ w3 hB3 (by simp only [List.length_append, List.length_cons, List.length_nil]; omega)).mono ?_
    rintro e w4 ⟨rfl, hb4, hk4⟩
    go_wp2
    go_end0
    refine ⟨rfl, ?_, (hk1.1.trans (hb3.mono hb1.2)).trans hk4.1⟩
    have e : bs ++ setT [] ts = bs ++ [32] ++ ([123, 32] ++ jt ++ [32, 125]) := by
      rw [setT, HT.out]; simp
    rw [e]
    exact hb4
  · have hwe : word.isEmpty = false := by cases word with
      | nil => exact absurd rfl hw0
      | cons _ _ => rfl
    go_wp2_with fail
    rw [show (⟨#[32]⟩ : ByteArray) = ⟨[32].toArray⟩ from rfl, sv_cat]
    refine (ws_any B b _ _ w1 hb1 (by simp only [List.length_append, List.length_cons, List.length_nil]; omega)).mono ?_
    rintro e w2 ⟨rfl, hb2, hk2⟩
    have hv2 := hv1.kept hb1 hk2
    have hK2 := hk1.trans hk2
    go_wp2_with fail
    refine (join_strs v ts w2 hv2 hN (by omega)).mono ?_
    rintro e w3 ⟨rfl, hb3⟩
    have hB3 := hb2.below hb3
    unfold sv
    have HJ : Hid ((Lib.join ts [44, 32]).length ≤ 100000000) := show (Lib.join ts [44, 32]).length ≤ 100000000 by omega
    obtain ⟨jt, hjt⟩ : ∃ jt, Lib.join ts [44, 32] = jt := ⟨_, rfl⟩
    rw [hjt] at HJ hlen ⊢
    have hjl : jt.length ≤ 100000000 := HJ.out
    have HT : Hid (Lib.join ts [44, 32] = jt) := hjt
    clear hjt
    go_wp2_with fail
    rw [show (⟨#[123, 32]⟩ : ByteArray) = ⟨[123, 32].toArray⟩ from rfl, show (⟨#[32, 125]⟩ : ByteArray) = ⟨[32, 125].toArray⟩ from rfl, sv_cat, sv_cat]
    refine (ws_any B b _ _ w3 hB3 (by simp only [List.length_append, List.length_cons, List.length_nil]; omega)).mono ?_
    rintro e w4 ⟨rfl, hb4, hk4⟩
    go_wp2
    go_end0
    refine ⟨rfl, ?_, (hK2.1.trans (hb3.mono hb2.2)).trans hk4.1⟩
    have e : bs ++ setT word ts = bs ++ [32] ++ (word ++ [32]) ++ ([123, 32] ++ jt ++ [32, 125]) := by
      rw [setT, HT.out, if_neg hw0]; simp
    rw [e]
    exact hb4
end Go.Proofs.Qxb6615962aFmt
