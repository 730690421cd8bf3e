import Derived.Test.Qxb6615962aIter
namespace Go.Proofs.Qxb6615962a
open Go.RowKit Go.Shelf

attribute [local go_sem] Oper.semAt_some

/-- One word of minutes more. -/
def orI (x y : Int) : Int := bits .or .u64 x y

/-- The minutes gathered from the groups that hold. -/
def accum (P : Gp → Bool) (gs : List Gp) : List Int := gs.foldl (fun a g => if P g then List.zipWith orI a g.mins else a) (List.replicate 23 0)

theorem accum_snoc (P : Gp → Bool) (gs : List Gp) (g : Gp) : accum P (gs ++ [g]) = if P g then List.zipWith orI (accum P gs) g.mins else accum P gs := by
  simp [accum]

set_option maxHeartbeats 1000000 in
theorem eraGroups_in (c i : Nat) (n : Nat) (w : World) :
    CallsIn Fence.wide n Try.prog 25 #[.pointer (some ⟨c, 0, none⟩), .int .i64 i] w fun e w' => e = .returned (.func (.func 28) #[] #[.pointer (some ⟨w.heap.size, 0, none⟩), .pointer (some ⟨w.heap.size + 1, 0, none⟩)]) ∧
      w' = (w.alloc (.cells #[.pointer (some ⟨c, 0, none⟩)] 37)).alloc (.cells #[.int .i64 i] 3) := by
  refine callsIn_of_wp Try.func25 rfl trivial ?_ rfl
  simp only [Try.ntmps25, List.size_toArray, List.length_cons, List.length_nil, Nat.reduceAdd, Nat.reduceSub, Array.replicate_succ, Array.replicate_zero, List.push_toArray, List.append_toArray, List.nil_append, List.cons_append]
  gi_wp2
  go_ret
  exact ⟨rfl, rfl⟩

/-- 23 words of no minute. -/
def zeros : List Value := [.int .u64 0, .int .u64 0, .int .u64 0, .int .u64 0, .int .u64 0, .int .u64 0, .int .u64 0, .int .u64 0, .int .u64 0, .int .u64 0, .int .u64 0, .int .u64 0, .int .u64 0, .int .u64 0, .int .u64 0, .int .u64 0, .int .u64 0, .int .u64 0, .int .u64 0, .int .u64 0, .int .u64 0, .int .u64 0, .int .u64 0]

/-- What lies in clauseMinutes' own memory beside the minutes. -/
structure Boxes (w : World) (month length day weekday : Nat) (W : World) : Prop where
  b0 : Blk W w.heap.size [.int .i64 month] 65
  b1 : Blk W (w.heap.size + 1) [.int .i64 length] 3
  b2 : Blk W (w.heap.size + 1 + 1) [.int .i64 day] 3
  b3 : Blk W (w.heap.size + 1 + 1 + 1) [.int .i64 weekday] 66
  b4 : Blk W (w.heap.size + 1 + 1 + 1 + 1) zeros 56
  bel : Below w.heap.size w W

theorem blk_own {W W' : World} {row : Option Nat} {b : Nat} {cs : List Value} {t : TypeId} (h : Blk W b cs t) (hg : W.grownBy W' row) (hr : ∀ r, row = some r → ∃ o : Obj, W.heap[r]? = some o ∧ o.isCells = false) : Blk W' b cs t := by
  refine (hg.block b h.lt (fun e => ?_)).trans h
  obtain ⟨o, ho, hc⟩ := hr b e.symm
  unfold Blk at h
  rw [h] at ho
  cases ho
  simp [Obj.isCells] at hc

theorem Boxes.own {w : World} {month length day weekday : Nat} {W W' : World} {row : Option Nat} (h : Boxes w month length day weekday W) (hg : W.grownBy W' row) (hr : ∀ r, row = some r → w.heap.size ≤ r ∧ ∃ o : Obj, W.heap[r]? = some o ∧ o.isCells = false) : Boxes w month length day weekday W' :=
  ⟨blk_own h.b0 hg (fun r e => (hr r e).2), blk_own h.b1 hg (fun r e => (hr r e).2), blk_own h.b2 hg (fun r e => (hr r e).2), blk_own h.b3 hg (fun r e => (hr r e).2), blk_own h.b4 hg (fun r e => (hr r e).2), h.bel.grown hg h.bel.size (fun k e => (hr k e).1)⟩

theorem Boxes.drew {w : World} {month length day weekday : Nat} {W : World} (h : Boxes w month length day weekday W) : Boxes w month length day weekday W.drew := ⟨h.b0, h.b1, h.b2, h.b3, h.b4, h.bel.drew⟩

theorem Boxes.set {w : World} {month length day weekday : Nat} {W : World} (h : Boxes w month length day weekday W) (k : Nat) (u : Value) : Boxes w month length day weekday (W.setCell ⟨w.heap.size + 1 + 1 + 1 + 1 + 1, k, none⟩ u) :=
  ⟨h.b0.other _ _ (by simp only [ne_eq]; omega), h.b1.other _ _ (by simp only [ne_eq]; omega), h.b2.other _ _ (by simp only [ne_eq]; omega), h.b3.other _ _ (by simp only [ne_eq]; omega), h.b4.other _ _ (by simp only [ne_eq]; omega), h.bel.setCell (by simp only []; omega) _⟩

/-- The world in which the loop over the groups begins. -/
structure Start (w : World) (c i month length day weekday : Nat) (W : World) : Prop where
  boxes : Boxes w month length day weekday W
  ms : Blk W (w.heap.size + 1 + 1 + 1 + 1 + 1) zeros 56
  cb : Blk W (w.heap.size + 1 + 1 + 1 + 1 + 1 + 1) [.pointer (some ⟨c, 0, none⟩)] 37
  ib : Blk W (w.heap.size + 1 + 1 + 1 + 1 + 1 + 1 + 1) [.int .i64 i] 3
  size : W.heap.size = w.heap.size + 8

theorem start_of (w : World) (c i month length day weekday : Nat) :
    Start w c i month length day weekday ((((((((w.alloc (.cells #[.int .i64 month] 65)).alloc (.cells #[.int .i64 length] 3)).alloc (.cells #[.int .i64 day] 3)).alloc (.cells #[.int .i64 weekday] 66)).alloc (.cells #[.int .u64 0, .int .u64 0, .int .u64 0, .int .u64 0, .int .u64 0, .int .u64 0, .int .u64 0, .int .u64 0, .int .u64 0, .int .u64 0, .int .u64 0, .int .u64 0, .int .u64 0, .int .u64 0, .int .u64 0, .int .u64 0, .int .u64 0, .int .u64 0, .int .u64 0, .int .u64 0, .int .u64 0, .int .u64 0, .int .u64 0] 56)).alloc (.cells #[.int .u64 0, .int .u64 0, .int .u64 0, .int .u64 0, .int .u64 0, .int .u64 0, .int .u64 0, .int .u64 0, .int .u64 0, .int .u64 0, .int .u64 0, .int .u64 0, .int .u64 0, .int .u64 0, .int .u64 0, .int .u64 0, .int .u64 0, .int .u64 0, .int .u64 0, .int .u64 0, .int .u64 0, .int .u64 0, .int .u64 0] 56)).alloc (.cells #[.pointer (some ⟨c, 0, none⟩)] 37)).alloc (.cells #[.int .i64 i] 3)) := by
  have n0 := Blk.new w [.int .i64 month] 65
  have n1 := Blk.new (w.alloc (.cells #[.int .i64 month] 65)) [.int .i64 length] 3
  have n2 := Blk.new ((w.alloc (.cells #[.int .i64 month] 65)).alloc (.cells #[.int .i64 length] 3)) [.int .i64 day] 3
  have n3 := Blk.new (((w.alloc (.cells #[.int .i64 month] 65)).alloc (.cells #[.int .i64 length] 3)).alloc (.cells #[.int .i64 day] 3)) [.int .i64 weekday] 66
  have n4 := Blk.new ((((w.alloc (.cells #[.int .i64 month] 65)).alloc (.cells #[.int .i64 length] 3)).alloc (.cells #[.int .i64 day] 3)).alloc (.cells #[.int .i64 weekday] 66)) zeros 56
  have n5 := Blk.new (((((w.alloc (.cells #[.int .i64 month] 65)).alloc (.cells #[.int .i64 length] 3)).alloc (.cells #[.int .i64 day] 3)).alloc (.cells #[.int .i64 weekday] 66)).alloc (.cells #[.int .u64 0, .int .u64 0, .int .u64 0, .int .u64 0, .int .u64 0, .int .u64 0, .int .u64 0, .int .u64 0, .int .u64 0, .int .u64 0, .int .u64 0, .int .u64 0, .int .u64 0, .int .u64 0, .int .u64 0, .int .u64 0, .int .u64 0, .int .u64 0, .int .u64 0, .int .u64 0, .int .u64 0, .int .u64 0, .int .u64 0] 56)) zeros 56
  have n6 := Blk.new ((((((w.alloc (.cells #[.int .i64 month] 65)).alloc (.cells #[.int .i64 length] 3)).alloc (.cells #[.int .i64 day] 3)).alloc (.cells #[.int .i64 weekday] 66)).alloc (.cells #[.int .u64 0, .int .u64 0, .int .u64 0, .int .u64 0, .int .u64 0, .int .u64 0, .int .u64 0, .int .u64 0, .int .u64 0, .int .u64 0, .int .u64 0, .int .u64 0, .int .u64 0, .int .u64 0, .int .u64 0, .int .u64 0, .int .u64 0, .int .u64 0, .int .u64 0, .int .u64 0, .int .u64 0, .int .u64 0, .int .u64 0] 56)).alloc (.cells #[.int .u64 0, .int .u64 0, .int .u64 0, .int .u64 0, .int .u64 0, .int .u64 0, .int .u64 0, .int .u64 0, .int .u64 0, .int .u64 0, .int .u64 0, .int .u64 0, .int .u64 0, .int .u64 0, .int .u64 0, .int .u64 0, .int .u64 0, .int .u64 0, .int .u64 0, .int .u64 0, .int .u64 0, .int .u64 0, .int .u64 0] 56)) [.pointer (some ⟨c, 0, none⟩)] 37
  have n7 := Blk.new (((((((w.alloc (.cells #[.int .i64 month] 65)).alloc (.cells #[.int .i64 length] 3)).alloc (.cells #[.int .i64 day] 3)).alloc (.cells #[.int .i64 weekday] 66)).alloc (.cells #[.int .u64 0, .int .u64 0, .int .u64 0, .int .u64 0, .int .u64 0, .int .u64 0, .int .u64 0, .int .u64 0, .int .u64 0, .int .u64 0, .int .u64 0, .int .u64 0, .int .u64 0, .int .u64 0, .int .u64 0, .int .u64 0, .int .u64 0, .int .u64 0, .int .u64 0, .int .u64 0, .int .u64 0, .int .u64 0, .int .u64 0] 56)).alloc (.cells #[.int .u64 0, .int .u64 0, .int .u64 0, .int .u64 0, .int .u64 0, .int .u64 0, .int .u64 0, .int .u64 0, .int .u64 0, .int .u64 0, .int .u64 0, .int .u64 0, .int .u64 0, .int .u64 0, .int .u64 0, .int .u64 0, .int .u64 0, .int .u64 0, .int .u64 0, .int .u64 0, .int .u64 0, .int .u64 0, .int .u64 0] 56)).alloc (.cells #[.pointer (some ⟨c, 0, none⟩)] 37)) [.int .i64 i] 3
  simp only [World.size_alloc] at n1 n2 n3 n4 n5 n6 n7
  refine ⟨⟨((((((n0.alloc _).alloc _).alloc _).alloc _).alloc _).alloc _).alloc _, (((((n1.alloc _).alloc _).alloc _).alloc _).alloc _).alloc _, ((((n2.alloc _).alloc _).alloc _).alloc _).alloc _, (((n3.alloc _).alloc _).alloc _).alloc _, ((n4.alloc _).alloc _).alloc _, ?_⟩, (n5.alloc _).alloc _, n6.alloc _, n7, by simp⟩
  exact (((((((((Below.refl _ _).alloc (Nat.le_refl _) _).alloc (by simp) _).alloc (by simp; omega) _).alloc (by simp; omega) _).alloc (by simp; omega) _).alloc (by simp; omega) _).alloc (by simp; omega) _).alloc (by simp; omega) _)

/-- The minutes while a group's are laid over them, up to word y. -/
def part (a b : List Int) (y : Nat) : List Int := (List.zipWith orI a b).take y ++ a.drop y

theorem part_len (a b : List Int) (y : Nat) (ha : a.length = 23) (hb : b.length = 23) (hy : y ≤ 23) : (part a b y).length = 23 := by
  simp [part, ha, hb]; omega

theorem part_zero (a b : List Int) : part a b 0 = a := by simp [part]
theorem part_all (a b : List Int) (ha : a.length = 23) (hb : b.length = 23) : part a b 23 = List.zipWith orI a b := by
  unfold part
  rw [List.take_of_length_le (by simp [ha, hb]), List.drop_eq_nil_of_le (by omega), List.append_nil]

theorem part_at (a b : List Int) (y : Nat) (ha : a.length = 23) (hb : b.length = 23) (hy : y < 23) : (part a b y)[y]? = some (a.getD y 0) := by
  unfold part
  have hl : ((List.zipWith orI a b).take y).length = y := by simp [ha, hb]; omega
  rw [List.getElem?_append_right (by omega), hl, Nat.sub_self, List.getElem?_drop, Nat.add_zero, List.getElem?_eq_getElem (by omega)]
  simp [List.getElem?_eq_getElem (show y < a.length by omega)]

theorem part_step (a b : List Int) (y : Nat) (ha : a.length = 23) (hb : b.length = 23) (hy : y < 23) : ((part a b y).map (Value.int .u64)).set y (.int .u64 (orI (a.getD y 0) (b.getD y 0))) = (part a b (y + 1)).map (Value.int .u64) := by
  rw [← List.map_set]
  congr 1
  unfold part
  have hl : ((List.zipWith orI a b).take y).length = y := by simp [ha, hb]; omega
  rw [List.set_append_right _ _ (by omega), hl, Nat.sub_self, List.drop_eq_getElem_cons (show y < a.length by omega), List.set_cons_zero, List.take_succ_eq_append_getElem (show y < (List.zipWith orI a b).length by simp [ha, hb]; omega), List.append_assoc, List.getElem_zipWith]
  simp [List.getElem?_eq_getElem (show y < a.length by omega), List.getElem?_eq_getElem (show y < b.length by omega)]

theorem accum_len (P : Gp → Bool) (gs : List Gp) (h : ∀ g ∈ gs, g.mins.length = 23) : (accum P gs).length = 23 := by
  have gen : ∀ (gs : List Gp) (a : List Int), a.length = 23 → (∀ g ∈ gs, g.mins.length = 23) → (gs.foldl (fun a g => if P g then List.zipWith orI a g.mins else a) a).length = 23 := by
    intro gs
    induction gs with
    | nil => intro a ha _; exact ha
    | cons g gs ih =>
      intro a ha hg
      rw [List.foldl_cons]
      refine ih _ ?_ (fun x hx => hg x (by simp [hx]))
      have := hg g (by simp)
      split
      · rw [List.length_zipWith]; omega
      · exact ha
  exact gen gs _ (by simp) h

section
variable {P : Program} {ops : Array Oper} {Q : Exit → Act → World → Prop} {md : Region.Mode} {S : World → Prop}

/-- One alone may come up, under a condition that all keep. -/
theorem anyH_one {i : Nat} {o : Oper} {fuel : Nat} {listed : Array Bool} {a : Act} {w : World} (hr : Region.ready md ops listed = [i]) (ho : ops[i]? = some o) (hg : Region.wanted o (yielded ops a.tmps) = true)
    (h : ∀ K : Act → World → Prop, (∀ a' w', S w' → wpAnyH P md ops Q S fuel (listed.setIfInBounds i true) a' w' → K a' w') → Oper.wp P o a w K Q) : wpAnyH P md ops Q S (fuel + 1) listed a w := by
  refine ⟨fun h0 => by rw [hr] at h0; simp at h0, ?_⟩
  rw [hr]
  intro j hj
  obtain rfl : j = i := by simpa using hj
  unfold wpOp
  rw [ho]
  simp only [hg, if_true]
  exact .inl (h _ fun a' w' h1 h2 => ⟨h1, h2⟩)
end

end Go.Proofs.Qxb6615962a
