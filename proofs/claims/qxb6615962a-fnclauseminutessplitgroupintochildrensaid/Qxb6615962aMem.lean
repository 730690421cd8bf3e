import Derived.Test.Qxb6615962aArgs
import Derived.Deep.MidRow
namespace Go.Proofs.Qxb6615962a
open Go.RowKit

/-- Block b holds these cells, of that type, none of them frozen. -/
def Blk (w : World) (b : Nat) (cs : List Value) (t : TypeId) : Prop := w.heap[b]? = some (.cells cs.toArray t (0, 0))

theorem Blk.lt {w : World} {b : Nat} {cs : List Value} {t : TypeId} (h : Blk w b cs t) : b < w.heap.size := (Array.getElem?_eq_some_iff.1 h).1

theorem Blk.cell {w : World} {b : Nat} {cs : List Value} {t : TypeId} (h : Blk w b cs t) (k : Nat) : w.cell? ⟨b, k, none⟩ = cs[k]? := by
  rw [cell_of_row w b k _ t (0, 0) h]; simp

theorem Blk.frozen {w : World} {b : Nat} {cs : List Value} {t : TypeId} (h : Blk w b cs t) (k : Nat) : w.frozen? ⟨b, k, none⟩ = false := frozen_of_row w b k _ t h

theorem Blk.range {w : World} {b : Nat} {cs : List Value} {t : TypeId} (h : Blk w b cs t) : w.rangeAt b 0 cs := by
  intro j v hj
  rw [Nat.zero_add, h.cell, hj]

theorem Blk.set {w : World} {b : Nat} {cs : List Value} {t : TypeId} (h : Blk w b cs t) (k : Nat) (v : Value) : Blk (w.setCell ⟨b, k, none⟩ v) b (cs.set k v) t := by
  unfold Blk
  rw [heap_setCell_same w b k _ t v h]
  simp

theorem Blk.ne {w : World} {b b' : Nat} {cs cs' : List Value} {t t' : TypeId} (h : Blk w b cs t) (h' : Blk w b' cs' t') (ht : t ≠ t') : b ≠ b' := by
  intro e
  subst e
  unfold Blk at h h'
  rw [h] at h'
  simp only [Option.some.injEq, Obj.cells.injEq] at h'
  exact ht h'.2.1

/-- Of the blocks that were there none has turned but those of M. -/
structure Chg (M : Nat → Prop) (w w' : World) : Prop where
  os : w'.os = w.os
  tape : w'.tape = w.tape
  output : w'.output = w.output
  size : w.heap.size ≤ w'.heap.size
  block : ∀ b, b < w.heap.size → ¬ M b → w'.heap[b]? = w.heap[b]?

theorem Chg.refl (M : Nat → Prop) (w : World) : Chg M w w := ⟨rfl, rfl, rfl, Nat.le_refl _, fun _ _ _ => rfl⟩

theorem Chg.trans {M M' : Nat → Prop} {a b c : World} (h : Chg M a b) (k : Chg M' b c) (hM : ∀ x, x < a.heap.size → M' x → M x) : Chg M a c :=
  ⟨k.os.trans h.os, k.tape.trans h.tape, k.output.trans h.output, Nat.le_trans h.size k.size, fun x hx hn => (k.block x (Nat.lt_of_lt_of_le hx h.size) (fun e => hn (hM x hx e))).trans (h.block x hx hn)⟩

theorem Chg.of_below {M : Nat → Prop} {B : Nat} {w w' : World} (h : Below B w w') (hM : ∀ b, b < w.heap.size → B ≤ b → M b) : Chg M w w' :=
  ⟨h.os, h.tape, h.output, h.size, fun b hb hn => h.block b (by by_cases hbb : b < B; exact hbb; exact absurd (hM b hb (by omega)) hn)⟩

theorem Chg.below {M : Nat → Prop} {B : Nat} {w w' : World} (h : Chg M w w') (hB : B ≤ w.heap.size) (hM : ∀ b, M b → B ≤ b) : Below B w w' :=
  ⟨h.os, h.tape, h.output, h.size, fun b hb => h.block b (by omega) (fun e => by have := hM b e; omega)⟩

theorem Blk.chg {M : Nat → Prop} {w w' : World} {b : Nat} {cs : List Value} {t : TypeId} (h : Blk w b cs t) (hc : Chg M w w') (hn : ¬ M b) : Blk w' b cs t := (hc.block b h.lt hn).trans h

theorem Blk.below {B : Nat} {w w' : World} {b : Nat} {cs : List Value} {t : TypeId} (h : Blk w b cs t) (hc : Below B w w') (hn : b < B) : Blk w' b cs t := (hc.block b hn).trans h

theorem Blk.alloc {w : World} {b : Nat} {cs : List Value} {t : TypeId} (h : Blk w b cs t) (o : Obj) : Blk (w.alloc o) b cs t := (Below.heap_alloc w o b h.lt).trans h

theorem Blk.other {w : World} {b : Nat} {cs : List Value} {t : TypeId} (h : Blk w b cs t) (a : Addr) (u : Value) (hn : b ≠ a.block) : Blk (w.setCell a u) b cs t := (Below.heap_setCell w a u b hn).trans h

theorem Blk.drew {w : World} {b : Nat} {cs : List Value} {t : TypeId} (h : Blk w b cs t) : Blk w.drew b cs t := h

theorem Blk.new (w : World) (cs : List Value) (t : TypeId) : Blk (w.alloc (.cells cs.toArray t)) w.heap.size cs t := by
  show (w.heap.push _)[w.heap.size]? = _
  simp

/-- A group in memory: the day group, its dates and its minutes, each in a block of its own, all in F. -/
structure GrpIn (F : Nat → Prop) (w : World) (b bd bm : Nat) (g : Gp) : Prop where
  f1 : F b
  f2 : F bd
  f3 : F bm
  grp : Blk w b [.pointer (some ⟨bd, 0, none⟩), .int .u64 g.wd, .pointer (some ⟨bm, 0, none⟩)] 63
  dates : Blk w bd (g.months.map (Value.int .u64) ++ [.string ByteArray.empty]) 55
  mins : Blk w bm (g.mins.map (Value.int .u64)) 56
  ok : g.ok

def GrpAt (F : Nat → Prop) (w : World) (p : Value) (g : Gp) : Prop := ∃ b bd bm, p = .pointer (some ⟨b, 0, none⟩) ∧ GrpIn F w b bd bm g

/-- One list of the calendar. -/
structure RowAt (F : Nat → Prop) (w : World) (v : Value) (gs : List Gp) (ps : List Value) : Prop where
  own : w.ownsRow 0 58 1 v gs.length ps
  foot : ∀ b, v.ownBlock = some b → F b
  grps : ∀ (j : Nat) (g : Gp), gs[j]? = some g → ∃ p, ps[j]? = some p ∧ GrpAt F w p g

/-- The groups at node k. -/
def atNode (L : List (Nat × Gp)) (k : Nat) : List Gp := (L.filter (fun x => x.1 == k)).map (·.2)

theorem atNode_snoc (L : List (Nat × Gp)) (k j : Nat) (g : Gp) : atNode (L ++ [(k, g)]) j = if k = j then atNode L j ++ [g] else atNode L j := by
  unfold atNode
  rw [List.filter_append, List.map_append]
  by_cases h : k = j
  · subst h; simp
  · simp [h]

/-- A calendar at block c, its lists at block h. -/
structure CalIn (F : Nat → Prop) (w : World) (c h n : Nat) (ea : Option Addr) (vs : List Value) (L : List (Nat × Gp)) : Prop where
  fc : F c
  fh : F h
  cal : Blk w c [.slice none 0 0, .bool false, .slice ea n n, .int .i64 0, .slice (some ⟨h, 0, none⟩) (2 * n) (2 * n)] 49
  held : Blk w h vs 57
  len : vs.length = 2 * n
  rows : ∀ (k : Nat) (v : Value), vs[k]? = some v → ∃ ps, RowAt F w v (atNode L k) ps
  apart : ∀ (k j : Nat) (u v : Value), k ≠ j → vs[k]? = some u → vs[j]? = some v → ∀ b, u.ownBlock = some b → v.ownBlock = some b → False
  old : ∀ b, F b → b < w.heap.size

def CalAt (F : Nat → Prop) (w : World) (c n : Nat) (L : List (Nat × Gp)) : Prop := ∃ h ea vs, CalIn F w c h n ea vs L

theorem GrpAt.keep {F : Nat → Prop} {w w' : World} {p : Value} {g : Gp} (h : GrpAt F w p g) (hs : ∀ b, F b → w'.heap[b]? = w.heap[b]?) : GrpAt F w' p g := by
  obtain ⟨b, bd, bm, hp, hg⟩ := h
  exact ⟨b, bd, bm, hp, hg.f1, hg.f2, hg.f3, (hs b hg.f1).trans hg.grp, (hs bd hg.f2).trans hg.dates, (hs bm hg.f3).trans hg.mins, hg.ok⟩

theorem own_keep {w w' : World} {base e n : Nat} {v : Value} {xs : List Value} (h : w.ownsRow base e 1 v n xs) (hs : ∀ b, v.ownBlock = some b → w'.heap[b]? = w.heap[b]?) : w'.ownsRow base e 1 v n xs := by
  obtain ⟨h1, h2⟩ := h
  refine ⟨h1, ?_⟩
  rcases h2 with h2 | ⟨g, cap, cur, hv, hg, hh, r⟩
  · exact Or.inl h2
  · exact Or.inr ⟨g, cap, cur, hv, hg, (hs g (by rw [hv]; rfl)).trans hh, r⟩

theorem RowAt.keep {F : Nat → Prop} {w w' : World} {v : Value} {gs : List Gp} {ps : List Value} (h : RowAt F w v gs ps) (hs : ∀ b, F b → w'.heap[b]? = w.heap[b]?) : RowAt F w' v gs ps :=
  ⟨own_keep h.own (fun b hb => hs b (h.foot b hb)), h.foot, fun j g hj => by
    obtain ⟨p, hp, hg⟩ := h.grps j g hj
    exact ⟨p, hp, hg.keep hs⟩⟩

theorem CalIn.keep {F : Nat → Prop} {w w' : World} {c h n : Nat} {ea : Option Addr} {vs : List Value} {L : List (Nat × Gp)} (q : CalIn F w c h n ea vs L) (hs : ∀ b, F b → w'.heap[b]? = w.heap[b]?) (hz : w.heap.size ≤ w'.heap.size) : CalIn F w' c h n ea vs L :=
  ⟨q.fc, q.fh, (hs c q.fc).trans q.cal, (hs h q.fh).trans q.held, q.len, fun k v hv => by
    obtain ⟨ps, hp⟩ := q.rows k v hv
    exact ⟨ps, hp.keep hs⟩, q.apart, fun b hb => Nat.lt_of_lt_of_le (q.old b hb) hz⟩

/-- A calendar stands while none of its blocks is touched. -/
theorem CalAt.keep {F : Nat → Prop} {w w' : World} {c n : Nat} {L : List (Nat × Gp)} (h : CalAt F w c n L) (hs : ∀ b, F b → w'.heap[b]? = w.heap[b]?) (hz : w.heap.size ≤ w'.heap.size) : CalAt F w' c n L := by
  obtain ⟨hh, ea, vs, q⟩ := h
  exact ⟨hh, ea, vs, q.fc, q.fh, (hs c q.fc).trans q.cal, (hs hh q.fh).trans q.held, q.len, fun k v hv => by
    obtain ⟨ps, hp⟩ := q.rows k v hv
    exact ⟨ps, hp.keep hs⟩, q.apart, fun b hb => Nat.lt_of_lt_of_le (q.old b hb) hz⟩

theorem CalAt.chg {F M : Nat → Prop} {w w' : World} {c n : Nat} {L : List (Nat × Gp)} (h : CalAt F w c n L) (hc : Chg M w w') (hd : ∀ b, F b → ¬ M b) : CalAt F w' c n L :=
  h.keep (fun b hb => hc.block b (by obtain ⟨_, _, _, q⟩ := h; exact q.old b hb) (hd b hb)) hc.size

theorem GrpAt.mono {F F' : Nat → Prop} {w : World} {p : Value} {g : Gp} (h : GrpAt F w p g) (hF : ∀ b, F b → F' b) : GrpAt F' w p g := by
  obtain ⟨b, bd, bm, hp, hg⟩ := h
  exact ⟨b, bd, bm, hp, hF _ hg.f1, hF _ hg.f2, hF _ hg.f3, hg.grp, hg.dates, hg.mins, hg.ok⟩

theorem own_blk {w : World} {base e n : Nat} {v : Value} {xs : List Value} {b : Nat} (h : w.ownsRow base e 1 v n xs) (hv : v.ownBlock = some b) : ∃ cs, Blk w b cs e := by
  rcases h.2 with ⟨rfl, _⟩ | ⟨g, cap, cur, rfl, _, hh, _⟩
  · simp [Value.ownBlock] at hv
  · simp only [Value.ownBlock, Option.some.injEq] at hv
    subst hv
    exact ⟨cur.toList, by unfold Blk; rw [hh]⟩

/-- A GROUP MORE: what the walk leaves makes the calendar with that group behind the others. -/
theorem CalIn.added {F : Nat → Prop} {w w' : World} {c h n : Nat} {ea : Option Addr} {vs : List Value} {L : List (Nat × Gp)} (q : CalIn F w c h n ea vs L) (k : Nat) (v v' : Value) (ps : List Value) (p : Value) (g : Gp)
    (hv : vs[k]? = some v) (hr : RowAt F w v (atNode L k) ps)
    (hheld : Blk w' h (vs.set k v') 57)
    (hown : w'.ownsRow 0 58 1 v' ((atNode L k).length + 1) (ps ++ [p]))
    (hblk : ∀ b, v'.ownBlock = some b → v.ownBlock = some b ∨ (w.heap.size ≤ b ∧ b < w'.heap.size))
    (hg : GrpAt (fun b => w.heap.size ≤ b ∧ b < w'.heap.size) w' p g)
    (hsame : ∀ b, b < w.heap.size → b ≠ h → v.ownBlock ≠ some b → w'.heap[b]? = w.heap[b]?) (hz : w.heap.size ≤ w'.heap.size) :
    CalIn (fun b => F b ∨ (w.heap.size ≤ b ∧ b < w'.heap.size)) w' c h n ea (vs.set k v') (L ++ [(k, g)]) := by
  have hrow : ∀ b, v.ownBlock = some b → ∃ cs, Blk w b cs 58 := fun b hb => own_blk hr.own hb
  have keepG : ∀ p g, GrpAt F w p g → GrpAt (fun b => F b ∨ (w.heap.size ≤ b ∧ b < w'.heap.size)) w' p g := by
    rintro p g ⟨b, bd, bm, hp, hG⟩
    have ne : ∀ (x : Nat) (cs : List Value) (t : TypeId), Blk w x cs t → t ≠ 57 → t ≠ 58 → w'.heap[x]? = w.heap[x]? := by
      intro x cs t hx h7 h8
      refine hsame x hx.lt (hx.ne q.held h7) (fun e => ?_)
      obtain ⟨cs', hb'⟩ := hrow x e
      exact hx.ne hb' h8 rfl
    exact ⟨b, bd, bm, hp, .inl hG.f1, .inl hG.f2, .inl hG.f3, (ne b _ _ hG.grp (by decide) (by decide)).trans hG.grp, (ne bd _ _ hG.dates (by decide) (by decide)).trans hG.dates, (ne bm _ _ hG.mins (by decide) (by decide)).trans hG.mins, hG.ok⟩
  have hk : k < vs.length := (List.getElem?_eq_some_iff.1 hv).1
  refine ⟨.inl q.fc, .inl q.fh, ?_, hheld, by rw [List.length_set]; exact q.len, ?_, ?_, ?_⟩
  · refine (hsame c q.cal.lt (q.cal.ne q.held (by decide)) (fun e => ?_)).trans q.cal
    obtain ⟨cs', hb'⟩ := hrow c e
    exact q.cal.ne hb' (by decide) rfl
  · intro j u hu
    by_cases hjk : j = k
    · subst hjk
      rw [List.getElem?_set_self hk] at hu
      cases hu
      refine ⟨ps ++ [p], ?_⟩
      rw [atNode_snoc, if_pos rfl]
      refine ⟨by rw [List.length_append]; exact hown, fun b hb => ?_, ?_⟩
      · rcases hblk b hb with h1 | h1
        · exact .inl (hr.foot b h1)
        · exact .inr h1
      · intro i g' hi
        have hpl : ps.length = (atNode L j).length := by have := hr.own.1; omega
        by_cases hil : i < (atNode L j).length
        · rw [List.getElem?_append_left hil] at hi
          obtain ⟨p', hp', hG'⟩ := hr.grps i g' hi
          exact ⟨p', by rw [List.getElem?_append_left (by omega)]; exact hp', keepG _ _ hG'⟩
        · rw [List.getElem?_append_right (by omega)] at hi
          have hi0 : i - (atNode L j).length = 0 := by
            have := (List.getElem?_eq_some_iff.1 hi).1
            simp at this
            omega
          rw [hi0] at hi
          simp at hi
          subst hi
          refine ⟨p, ?_, hg.mono (fun b hb => .inr hb)⟩
          rw [List.getElem?_append_right (by omega), hpl, hi0]
          rfl
    · rw [List.getElem?_set_ne (fun e => hjk e.symm)] at hu
      obtain ⟨ps', hp'⟩ := q.rows j u hu
      refine ⟨ps', ?_⟩
      rw [atNode_snoc, if_neg (fun e => hjk e.symm)]
      refine ⟨own_keep hp'.own (fun b hb => ?_), fun b hb => .inl (hp'.foot b hb), fun i g' hi => ?_⟩
      · obtain ⟨cs', hb'⟩ := own_blk hp'.own hb
        exact hsame b hb'.lt (hb'.ne q.held (by decide)) (fun e => q.apart j k u v hjk hu hv b hb e)
      · obtain ⟨p', h1, h2⟩ := hp'.grps i g' hi
        exact ⟨p', h1, keepG _ _ h2⟩
  · intro i j x y hij hx hy b hb hb'
    have aux : ∀ (j : Nat) (y : Value), j ≠ k → vs[j]? = some y → y.ownBlock = some b → v'.ownBlock = some b → False := by
      intro j y hj hy hy' hv'
      obtain ⟨ps', hp'⟩ := q.rows j y hy
      rcases hblk b hv' with h1 | h1
      · exact q.apart j k y v hj hy hv b hy' h1
      · have := q.old b (hp'.foot b hy')
        omega
    by_cases hik : i = k
    · subst hik
      rw [List.getElem?_set_self hk] at hx
      cases hx
      rw [List.getElem?_set_ne hij] at hy
      exact aux j y (fun e => hij e.symm) hy hb' hb
    · rw [List.getElem?_set_ne (fun e => hik e.symm)] at hx
      by_cases hjk : j = k
      · subst hjk
        rw [List.getElem?_set_self hk] at hy
        cases hy
        exact aux i x hik hx hb hb'
      · rw [List.getElem?_set_ne (fun e => hjk e.symm)] at hy
        exact q.apart i j x y hij hx hy b hb hb'
  · rintro b (hb | hb)
    · exact Nat.lt_of_lt_of_le (q.old b hb) hz
    · exact hb.2

end Go.Proofs.Qxb6615962a
