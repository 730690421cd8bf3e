import Derived.Test.Qxb6615962aLaw
namespace Go.Proofs.Qxb6615962a
open Go.RowKit Go.Shelf

/-- Two calendars that share no block, and hold none of the blocks R. -/
def Two (R : Nat → Prop) (c1 c2 n : Nat) (L1 L2 : List (Nat × Gp)) (w : World) : Prop :=
  ∃ F1 F2 : Nat → Prop, CalAt F1 w c1 n L1 ∧ CalAt F2 w c2 n L2 ∧ (∀ b, F1 b → F2 b → False) ∧ (∀ b, F1 b → ¬ R b) ∧ (∀ b, F2 b → ¬ R b)

theorem CalAt.old {F : Nat → Prop} {w : World} {c n : Nat} {L : List (Nat × Gp)} (h : CalAt F w c n L) : ∀ b, F b → b < w.heap.size := by
  obtain ⟨_, _, _, q⟩ := h
  exact q.old

theorem Two.grow {R R' : Nat → Prop} {c1 c2 n : Nat} {L1 L2 : List (Nat × Gp)} {w w' : World} (h : Two R c1 c2 n L1 L2 w) (hb : Below w.heap.size w w') (hR : ∀ b, R' b → R b ∨ w.heap.size ≤ b) : Two R' c1 c2 n L1 L2 w' := by
  obtain ⟨F1, F2, h1, h2, hd, r1, r2⟩ := h
  exact ⟨F1, F2, h1.keep (fun b hb' => hb.block b (h1.old b hb')) hb.size, h2.keep (fun b hb' => hb.block b (h2.old b hb')) hb.size, hd,
    fun b hf hr => (hR b hr).elim (r1 b hf) (fun e => by have := h1.old b hf; omega), fun b hf hr => (hR b hr).elim (r2 b hf) (fun e => by have := h2.old b hf; omega)⟩

theorem Two.swap {R : Nat → Prop} {c1 c2 n : Nat} {L1 L2 : List (Nat × Gp)} {w : World} (h : Two R c1 c2 n L1 L2 w) : Two R c2 c1 n L2 L1 w := by
  obtain ⟨F1, F2, h1, h2, hd, r1, r2⟩ := h
  exact ⟨F2, F1, h2, h1, fun b x y => hd b y x, r2, r1⟩

theorem Two.add1 {R : Nat → Prop} {c1 c2 n : Nat} {L1 L2 : List (Nat × Gp)} {w : World} (h : Two R c1 c2 n L1 L2 w) (hR : ∀ b, R b → b < w.heap.size) (k : Nat) (g : Gp) (hk : k < 2 * n) (hg : g.ok) (hn : n ≤ 65536) (hL : L1.length ≤ 10000) :
    Calls Try.prog 14 #[.pointer (some ⟨c1, 0, none⟩), .int .i64 k, .agg (g.months.map (Value.int .u64)).toArray, .int .u64 g.wd, .agg (g.mins.map (Value.int .u64)).toArray] w fun e w' =>
      e = .returned (.tuple #[]) ∧ Two R c1 c2 n (L1 ++ [(k, g)]) L2 w' ∧ Chg (fun b => ¬ R b) w w' := by
  obtain ⟨F1, F2, h1, h2, hd, r1, r2⟩ := h
  refine (add_any F1 c1 n L1 k g w h1 hk hg hn hL).mono ?_
  rintro e w' ⟨rfl, ⟨F', hC, hF, _⟩, hch⟩
  refine ⟨rfl, ⟨F', F2, hC, h2.chg hch (fun b x y => hd b y x), ?_, ?_, r2⟩, ⟨hch.os, hch.tape, hch.output, hch.size, fun b hb hn => hch.block b hb (fun hf => hn (r1 b hf))⟩⟩
  · intro b x y
    rcases hF b x with hx | hx
    · exact hd b hx y
    · have := h2.old b y; omega
  · intro b x y
    rcases hF b x with hx | hx
    · exact r1 b hx y
    · have := hR b y; omega

theorem Two.add2 {R : Nat → Prop} {c1 c2 n : Nat} {L1 L2 : List (Nat × Gp)} {w : World} (h : Two R c1 c2 n L1 L2 w) (hR : ∀ b, R b → b < w.heap.size) (k : Nat) (g : Gp) (hk : k < 2 * n) (hg : g.ok) (hn : n ≤ 65536) (hL : L2.length ≤ 10000) :
    Calls Try.prog 14 #[.pointer (some ⟨c2, 0, none⟩), .int .i64 k, .agg (g.months.map (Value.int .u64)).toArray, .int .u64 g.wd, .agg (g.mins.map (Value.int .u64)).toArray] w fun e w' =>
      e = .returned (.tuple #[]) ∧ Two R c1 c2 n L1 (L2 ++ [(k, g)]) w' ∧ Chg (fun b => ¬ R b) w w' := by
  refine (h.swap.add1 hR k g hk hg hn hL).mono ?_
  rintro e w' ⟨rfl, h', hc⟩
  exact ⟨rfl, h'.swap, hc⟩

theorem Two.minutes1 {R : Nat → Prop} {c1 c2 n : Nat} {L1 L2 : List (Nat × Gp)} {w : World} (h : Two R c1 c2 n L1 L2 w) (hok : ∀ y ∈ L1, y.2.ok) (i month length day weekday : Nat) (hin : i < n) (hn : n ≤ 65536) (hL : L1.length ≤ 10000)
    (hm1 : 1 ≤ month) (hm2 : month ≤ 12) (hl : length ≤ 31) (hd1 : 1 ≤ day) (hd2 : day ≤ 31) :
    Calls Try.prog 15 #[.pointer (some ⟨c1, 0, none⟩), .int .i64 i, .int .i64 month, .int .i64 length, .int .i64 day, .int .i64 weekday] w fun e w' =>
      e = .returned (.agg ((minutes L1 (n + i) month length day weekday).map (Value.int .u64)).toArray) ∧ Below w.heap.size w w' := by
  obtain ⟨F1, F2, h1, h2, hd, r1, r2⟩ := h
  exact zz_any F1 c1 n L1 i month length day weekday w h1 hok hin hn hL hm1 hm2 hl hd1 hd2

theorem Two.start {n : Nat} {w w2 w3 : World} {c1 c2 : Nat} (h1 : CalAt (fun b => w.heap.size ≤ b ∧ b < w2.heap.size) w2 c1 n []) (k1 : Chg (fun _ => False) w w2) (h2 : CalAt (fun b => w2.heap.size ≤ b ∧ b < w3.heap.size) w3 c2 n []) (k2 : Chg (fun _ => False) w2 w3) :
    Two (fun b => b < w.heap.size) c1 c2 n [] [] w3 ∧ Chg (fun b => ¬ b < w.heap.size) w w3 := by
  refine ⟨⟨_, _, h1.chg k2 (fun _ _ x => x), h2, fun b x y => ?_, fun b x y => ?_, fun b x y => ?_⟩, (k1.trans k2 (fun _ _ x => x)).1, (k1.trans k2 (fun _ _ x => x)).2, (k1.trans k2 (fun _ _ x => x)).3, (k1.trans k2 (fun _ _ x => x)).4, fun b hb _ => (k1.trans k2 (fun _ _ x => x)).5 b hb (fun x => x)⟩
  · omega
  · omega
  · have := k1.size; omega

/-- What a group's fields read, in a block of its own. -/
structure Reads (w : World) (r : Nat) (g : Gp) : Prop where
  node : w.cell? ⟨r, 0, none⟩ = some (.int .i64 g.node)
  months : w.rangeAt r 1 (g.months.map (Value.int .u64))
  wd : w.cell? ⟨r, 13, none⟩ = some (.int .u64 g.wd)
  mins : w.rangeAt r 14 (g.mins.map (Value.int .u64))

theorem reads_of {w : World} {r : Nat} {g : Gp} (h : Blk w r g.cells 34) (hg : g.ok) : Reads w r g := by
  have hml := hg.hm
  have hsl := hg.hs
  refine ⟨h.cell 0, fun j v hv => ?_, (h.cell 13).trans hg.atWd, fun j v hv => ?_⟩
  · rw [h.cell]
    have hj : j < 12 := by have := (List.getElem?_eq_some_iff.1 hv).1; rw [List.length_map] at this; omega
    rw [hg.atMonth j hj, ← hv, List.getElem?_map, List.getElem?_eq_getElem (by omega)]
    simp [List.getElem?_eq_getElem (show j < g.months.length by omega)]
  · rw [h.cell]
    have hj : j < 23 := by have := (List.getElem?_eq_some_iff.1 hv).1; rw [List.length_map] at this; omega
    rw [hg.atMin j hj, ← hv, List.getElem?_map, List.getElem?_eq_getElem (by omega)]
    simp [List.getElem?_eq_getElem (show j < g.mins.length by omega)]

/-- The sizes of the types that are read and written whole. -/
structure Sizes (g : Gp) : Prop where
  s31 : (Try.prog.info? 31).map (·.size) = some (g.months.map (Value.int .u64)).length
  s32 : (Try.prog.info? 32).map (·.size) = some (g.mins.map (Value.int .u64)).length
  s34 : (Try.prog.info? 34).map (·.size) = some g.cells.length
  one : ∀ v ∈ g.cells, v.oneCell' = true
  len : g.cells.length = 37

theorem info31 : (Try.prog.info? 31).map (·.size) = some 12 := by kernel_rfl
theorem info34 : (Try.prog.info? 34).map (·.size) = some 37 := by kernel_rfl

theorem sizes_of {g : Gp} (hg : g.ok) : Sizes g := by
  have hl : g.cells.length = 37 := hg.len
  refine ⟨by rw [List.length_map, hg.hm]; exact info31, by rw [List.length_map, hg.hs]; exact info32, by rw [hl]; exact info34, ?_, hl⟩
  intro v hv
  unfold Gp.cells at hv
  rcases List.mem_cons.1 hv with rfl | hv
  · rfl
  rcases List.mem_append.1 hv with hv | hv
  · exact one_of_ints _ v hv
  rcases List.mem_cons.1 hv with rfl | hv
  · rfl
  · exact one_of_ints _ v hv

/-- The groups with their nodes. -/
def pairs (gs : List Gp) : List (Nat × Gp) := gs.map fun g => (g.node.toNat, g)

end Go.Proofs.Qxb6615962a
