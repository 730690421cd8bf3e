import Derived.Test.Qxb6614905aComm
namespace Go.Proofs.Qxb6614905a
open Go.RowKit

/-- What is read of a slice of integers. -/
def Ints (w : World) (a : Option Addr) (len : Nat) : Prop := 0 < len → ∃ b off, a = some ⟨b, off, none⟩ ∧ b < w.heap.size ∧ ∀ j, j < len → ∃ z, w.cell? ⟨b, off + j, none⟩ = some (.int .i64 z)

/-- The blocks of the law's own: the two places, the bare clause, the full one, whose body is v. -/
structure Held (w : World) (k0 k1 o0 o1 : Int) (j : Nat) (wr : World) : Prop where
  b0 : Blk wr w.heap.size [.int .i64 k0, .int .i64 k1] 28
  b1 : Blk wr (w.heap.size + 1) [.int .i64 o0, .int .i64 o1] 28
  b2 : Blk wr (w.heap.size + 1 + 1) [.int .i64 k0, .int .i64 k1, .nilIface, .int .i64 o0, .int .i64 o1, .slice none 0 0] 39
  b3 : ∃ v xs, Blk wr (w.heap.size + 1 + 1 + 1) [.int .i64 k0, .int .i64 k1, .nilIface, .int .i64 o0, .int .i64 o1, v] 39 ∧ wr.ownsRow (w.heap.size + 4) 36 1 v j xs
  bel : Below w.heap.size w wr
  size : w.heap.size + 4 ≤ wr.heap.size

theorem held_start (w : World) (k0 k1 o0 o1 : Int) : Held w k0 k1 o0 o1 0 ((((w.alloc (.cells #[.int .i64 k0, .int .i64 k1] 28)).alloc (.cells #[.int .i64 o0, .int .i64 o1] 28)).alloc (.cells #[.int .i64 k0, .int .i64 k1, .nilIface, .int .i64 o0, .int .i64 o1, .slice none 0 0] 39)).alloc (.cells #[.int .i64 k0, .int .i64 k1, .nilIface, .int .i64 o0, .int .i64 o1, .slice none 0 0] 39)) := by
  have n0 := Blk.new w [.int .i64 k0, .int .i64 k1] 28
  have n1 := Blk.new (w.alloc (.cells #[.int .i64 k0, .int .i64 k1] 28)) [.int .i64 o0, .int .i64 o1] 28
  have n2 := Blk.new ((w.alloc (.cells #[.int .i64 k0, .int .i64 k1] 28)).alloc (.cells #[.int .i64 o0, .int .i64 o1] 28)) [.int .i64 k0, .int .i64 k1, .nilIface, .int .i64 o0, .int .i64 o1, .slice none 0 0] 39
  have n3 := Blk.new (((w.alloc (.cells #[.int .i64 k0, .int .i64 k1] 28)).alloc (.cells #[.int .i64 o0, .int .i64 o1] 28)).alloc (.cells #[.int .i64 k0, .int .i64 k1, .nilIface, .int .i64 o0, .int .i64 o1, .slice none 0 0] 39)) [.int .i64 k0, .int .i64 k1, .nilIface, .int .i64 o0, .int .i64 o1, .slice none 0 0] 39
  simp only [World.size_alloc] at n1 n2 n3
  refine ⟨((n0.alloc _).alloc _).alloc _, (n1.alloc _).alloc _, n2.alloc _, ⟨_, [], n3, ⟨rfl, .inl ⟨rfl, rfl⟩⟩⟩, ?_, by simp⟩
  exact (((((Below.refl _ _).alloc (Nat.le_refl _) _).alloc (by simp) _).alloc (by simp; omega) _).alloc (by simp; omega) _)

theorem Held.grow {w : World} {k0 k1 o0 o1 : Int} {j : Nat} {wr w' : World} (h : Held w k0 k1 o0 o1 j wr) (hb : Below wr.heap.size wr w') : Held w k0 k1 o0 o1 j w' := by
  obtain ⟨v, xs, h3, ho⟩ := h.b3
  have hs := h.size
  exact ⟨h.b0.below hb (by omega), h.b1.below hb (by omega), h.b2.below hb (by omega), ⟨v, xs, h3.below hb (by omega), own_keep ho (fun b _ hbb => hb.block b hbb)⟩, h.bel.trans (hb.mono (by omega)), Nat.le_trans hs hb.size⟩

theorem Held.add {w : World} {k0 k1 o0 o1 : Int} {j : Nat} {wr : World} (h : Held w k0 k1 o0 o1 j wr) (hj : j ≤ 5000) (bb : Nat) :
    Calls Try.prog 14 #[.pointer (some ⟨w.heap.size + 1 + 1 + 1, 0, none⟩), .pointer (some ⟨bb, 0, none⟩)] wr fun e w' => e = .returned (.tuple #[]) ∧ Held w k0 k1 o0 o1 (j + 1) w' := by
  obtain ⟨v, xs, h3, ho⟩ := h.b3
  have hs := h.size
  refine (addBody (w.heap.size + 1 + 1 + 1) (w.heap.size + 4) bb k0 k1 o0 o1 v j xs wr h3 ho (by omega) hs hj).mono ?_
  rintro e w' ⟨rfl, ⟨v', xs', h3', ho'⟩, hc⟩
  have hbl : ∀ {b cs t}, Blk wr b cs t → b < w.heap.size + 3 → Blk w' b cs t := fun hb hlt => hb.chg hc (fun e => by omega)
  refine ⟨rfl, hbl h.b0 (by omega), hbl h.b1 (by omega), hbl h.b2 (by omega), ⟨v', xs', h3', ho'⟩, h.bel.trans (hc.below (by omega) (fun b e => by omega)), Nat.le_trans hs hc.size⟩

theorem keep7 {W w w' : World} {p1 p2 p3 p4 p5 p6 : Addr} {v1 v2 v3 v4 v5 v6 : Value} (hb : Below w.heap.size w w')
    (h : w.cell? p1 = some v1 ∧ w.cell? p2 = some v2 ∧ w.cell? p3 = some v3 ∧ w.cell? p4 = some v4 ∧ w.cell? p5 = some v5 ∧ w.cell? p6 = some v6 ∧ Below W.heap.size W w) :
    w'.cell? p1 = some v1 ∧ w'.cell? p2 = some v2 ∧ w'.cell? p3 = some v3 ∧ w'.cell? p4 = some v4 ∧ w'.cell? p5 = some v5 ∧ w'.cell? p6 = some v6 ∧ Below W.heap.size W w' := by
  obtain ⟨h1, h2, h3, h4, h5, h6, h7⟩ := h
  exact ⟨keep_cell hb h1, keep_cell hb h2, keep_cell hb h3, keep_cell hb h4, keep_cell hb h5, keep_cell hb h6, h7.trans (hb.mono h7.size)⟩

set_option maxRecDepth 100000 in
set_option maxHeartbeats 2000000 in
theorem comm_walk (k0 k1 o0 o1 : Int) (a4 : Option Addr) (len4 cap4 : Nat) (a5 : Option Addr) (len5 cap5 : Nat) (w : World) (h4 : Ints w a4 len4) (h5 : Ints w a5 len5) :
    Calls Try.prog 5 #[.int .i64 k0, .int .i64 k1, .int .i64 o0, .int .i64 o1, .slice a4 len4 cap4, .slice a5 len5 cap5] w fun e w' => e = .returned (.bool true) ∧ Below w.heap.size w w' := by
  have HI4 : Hid (Ints w a4 len4) := h4
  have HI5 : Hid (Ints w a5 len5) := h5
  have hbw : Below w.heap.size w w := Below.refl _ _
  have HH0 := held_start w k0 k1 o0 o1
  clear h4 h5
  go_enter Try.func5, Try.ntmps5
  go_wp2_with fail
  refine (bytes13 k0 k1 o0 o1 a4 len4 cap4 a5 len5 cap5 w).mono ?_
  rintro r w' ⟨ht, rfl⟩
  obtain ⟨r, rfl, -⟩ := ht
  cases r
  · go_wp2
    go_ret
    exact ⟨rfl, hbw⟩
  by_cases hl4 : len4 ≤ 4096
  case neg =>
    go_wp2
    go_ret
    exact ⟨rfl, hbw⟩
  by_cases hl5 : len5 ≤ 4096
  case neg =>
    go_wp2
    go_ret
    exact ⟨rfl, hbw⟩
  by_cases hle : len5 < len4
  · go_wp2_with fail
    go_loopw [18] (fun t wr => ∃ j : Nat, t = .int .i64 j ∧ j ≤ len5 ∧ Held w k0 k1 o0 o1 j wr) (fun t _ => len5 - (intOf t).toNat)
    case atStart => exact ⟨0, rfl, Nat.zero_le _, HH0⟩
    case round =>
      obtain ⟨j, rfl, hj, hH⟩ := hrel
      clear HH0
      by_cases hlt : j < len5
      · obtain ⟨b4, off4, rfl, hb4, hz4⟩ := HI4.out (by omega)
        obtain ⟨b5, off5, rfl, hb5, hz5⟩ := HI5.out (by omega)
        obtain ⟨z4, hc4⟩ := hz4 j (by omega)
        obtain ⟨z5, hc5⟩ := hz5 j (by omega)
        have q4 : wr.cell? ⟨b4, off4 + j, none⟩ = some (.int .i64 z4) := (hH.bel.cell (p := ⟨b4, off4 + j, none⟩) hb4).trans hc4
        have q5 : wr.cell? ⟨b5, off5 + j, none⟩ = some (.int .i64 z5) := (hH.bel.cell (p := ⟨b5, off5 + j, none⟩) hb5).trans hc5
        have hj4 : (j : Int) < len4 := by omega
        have hj5 : (j : Int) < len5 := by omega
        have HH : Hid (Held w k0 k1 o0 o1 j wr) := hH
        clear hH hz4 hz5 hc4 hc5
        go_wp2_with fail
        go_region_held (fun w' => w'.cell? ⟨b4, off4 + j, none⟩ = some (.int .i64 z4) ∧ w'.cell? ⟨b5, off5 + j, none⟩ = some (.int .i64 z5)) (go_keep) (fail)
        clear q4 q5
        go_wp2_with fail
        refine ((HH.out.grow (((Below.refl _ _).alloc (Nat.le_refl _) _).drew)).add (by omega) wr.heap.size).mono ?_
        rintro r w7 ⟨rfl, h7⟩
        have H7 : Hid (Held w k0 k1 o0 o1 (j + 1) w7) := h7
        clear h7 HH
        go_wp2
        go_roundw
        case rel => exact ⟨j + 1, by go_num, by omega, H7.out⟩
        case measure => simp [intOf]; omega
      · obtain rfl : j = len5 := by omega
        have HH : Hid (Held w k0 k1 o0 o1 j wr) := hH
        have c00 : wr.cell? ⟨w.heap.size, 0, none⟩ = some (.int .i64 k0) := hH.b0.cell 0
        have c01 : wr.cell? ⟨w.heap.size, 1, none⟩ = some (.int .i64 k1) := hH.b0.cell 1
        have c10 : wr.cell? ⟨w.heap.size + 1, 0, none⟩ = some (.int .i64 o0) := hH.b1.cell 0
        have c11 : wr.cell? ⟨w.heap.size + 1, 1, none⟩ = some (.int .i64 o1) := hH.b1.cell 1
        clear hH
        have hnew := Blk.new wr [.int .i64 o0, .int .i64 o1, .nilIface, .int .i64 k0, .int .i64 k1, .slice none 0 0] 39
        have hbn : Below wr.heap.size wr (wr.alloc (.cells #[.int .i64 o0, .int .i64 o1, .nilIface, .int .i64 k0, .int .i64 k1, .slice none 0 0] 39)) := (Below.refl _ _).alloc (Nat.le_refl _) _
        have H1 := HH.out.grow hbn
        obtain ⟨v, xs, hb3, -⟩ := H1.b3
        have HP := pos_of (w.heap.size + 1 + 1 + 1) k0 k1 _ (hb3.cell 0) (hb3.cell 1)
        have HN : Hid (Blk (wr.alloc (.cells #[.int .i64 o0, .int .i64 o1, .nilIface, .int .i64 k0, .int .i64 k1, .slice none 0 0] 39)) wr.heap.size [.int .i64 o0, .int .i64 o1, .nilIface, .int .i64 k0, .int .i64 k1, .slice none 0 0] 39 ∧ Held w k0 k1 o0 o1 j (wr.alloc (.cells #[.int .i64 o0, .int .i64 o1, .nilIface, .int .i64 k0, .int .i64 k1, .slice none 0 0] 39))) := ⟨hnew, H1⟩
        have HP' : Hid (Calls Try.prog 15 _ _ _) := HP
        clear hnew hbn H1 hb3 HP
        go_wp2_with fail
        refine HP'.out.mono ?_
        rintro r w2 ⟨rfl, hb2⟩
        clear HP' c00 c01 c10 c11 HH HI4 HI5 hle hl4 hl5
        have g1 := HN.out.2.grow hb2
        have g2 := HN.out.1.below hb2 HN.out.1.lt
        have d0 : (w2.alloc (.cells #[.int .i64 k0, .int .i64 k1] 28)).cell? ⟨w2.heap.size, 0, none⟩ = some (.int .i64 k0) := (Blk.new w2 [.int .i64 k0, .int .i64 k1] 28).cell 0
        have d1 : (w2.alloc (.cells #[.int .i64 k0, .int .i64 k1] 28)).cell? ⟨w2.heap.size, 1, none⟩ = some (.int .i64 k1) := (Blk.new w2 [.int .i64 k0, .int .i64 k1] 28).cell 1
        have d2 : (w2.alloc (.cells #[.int .i64 k0, .int .i64 k1] 28)).cell? ⟨w.heap.size + 1 + 1, 0, none⟩ = some (.int .i64 k0) := (g1.b2.alloc _).cell 0
        have d3 : (w2.alloc (.cells #[.int .i64 k0, .int .i64 k1] 28)).cell? ⟨w.heap.size + 1 + 1, 1, none⟩ = some (.int .i64 k1) := (g1.b2.alloc _).cell 1
        have d4 : (w2.alloc (.cells #[.int .i64 k0, .int .i64 k1] 28)).cell? ⟨wr.heap.size, 0, none⟩ = some (.int .i64 o0) := (g2.alloc _).cell 0
        have d5 : (w2.alloc (.cells #[.int .i64 k0, .int .i64 k1] 28)).cell? ⟨wr.heap.size, 1, none⟩ = some (.int .i64 o1) := (g2.alloc _).cell 1
        have d6 : Below w.heap.size w (w2.alloc (.cells #[.int .i64 k0, .int .i64 k1] 28)) := g1.bel.alloc (by have := g1.size; omega) _
        clear HN g1 g2 hb2
        generalize hw3 : w2.alloc (.cells #[.int .i64 k0, .int .i64 k1] 28) = w3 at d0 d1 d2 d3 d4 d5 d6
        go_wp2_with fail
        clear hw3
        generalize w2.heap.size = B2 at d0 d1 ⊢
        generalize wr.heap.size = B3 at d4 d5 ⊢
        go_region_held (fun w' => w'.cell? ⟨B2, 0, none⟩ = some (.int .i64 k0) ∧ w'.cell? ⟨B2, 1, none⟩ = some (.int .i64 k1) ∧ w'.cell? ⟨w.heap.size + 1 + 1, 0, none⟩ = some (.int .i64 k0) ∧ w'.cell? ⟨w.heap.size + 1 + 1, 1, none⟩ = some (.int .i64 k1) ∧ w'.cell? ⟨B3, 0, none⟩ = some (.int .i64 o0) ∧ w'.cell? ⟨B3, 1, none⟩ = some (.int .i64 o1) ∧ Below w.heap.size w w')
          (first | exact keep7 (by assumption) (by assumption) | exact ⟨d0, d1, d2, d3, d4, d5, d6.drew⟩)
          (first
            | (go_at_call 8; refine (posIs_same _ _ _).mono ?_; rintro e w' ⟨rfl, hb⟩)
            | (go_at_call 15; refine (pos_of _ _ _ _ (by go_split_ands; assumption) (by go_split_ands; assumption)).mono ?_; rintro e w' ⟨rfl, hb⟩))
        go_wp2
        go_ret
        exact ⟨rfl, by go_split_ands; assumption⟩
  · go_wp2_with fail
    go_loopw [18] (fun t wr => ∃ j : Nat, t = .int .i64 j ∧ j ≤ len4 ∧ Held w k0 k1 o0 o1 j wr) (fun t _ => len4 - (intOf t).toNat)
    case atStart => exact ⟨0, rfl, Nat.zero_le _, HH0⟩
    case round =>
      obtain ⟨j, rfl, hj, hH⟩ := hrel
      clear HH0
      by_cases hlt : j < len4
      · obtain ⟨b4, off4, rfl, hb4, hz4⟩ := HI4.out (by omega)
        obtain ⟨b5, off5, rfl, hb5, hz5⟩ := HI5.out (by omega)
        obtain ⟨z4, hc4⟩ := hz4 j (by omega)
        obtain ⟨z5, hc5⟩ := hz5 j (by omega)
        have q4 : wr.cell? ⟨b4, off4 + j, none⟩ = some (.int .i64 z4) := (hH.bel.cell (p := ⟨b4, off4 + j, none⟩) hb4).trans hc4
        have q5 : wr.cell? ⟨b5, off5 + j, none⟩ = some (.int .i64 z5) := (hH.bel.cell (p := ⟨b5, off5 + j, none⟩) hb5).trans hc5
        have hj4 : (j : Int) < len4 := by omega
        have hj5 : (j : Int) < len5 := by omega
        have HH : Hid (Held w k0 k1 o0 o1 j wr) := hH
        clear hH hz4 hz5 hc4 hc5
        go_wp2_with fail
        go_region_held (fun w' => w'.cell? ⟨b4, off4 + j, none⟩ = some (.int .i64 z4) ∧ w'.cell? ⟨b5, off5 + j, none⟩ = some (.int .i64 z5)) (go_keep) (fail)
        clear q4 q5
        go_wp2_with fail
        refine ((HH.out.grow (((Below.refl _ _).alloc (Nat.le_refl _) _).drew)).add (by omega) wr.heap.size).mono ?_
        rintro r w7 ⟨rfl, h7⟩
        have H7 : Hid (Held w k0 k1 o0 o1 (j + 1) w7) := h7
        clear h7 HH
        go_wp2
        go_roundw
        case rel => exact ⟨j + 1, by go_num, by omega, H7.out⟩
        case measure => simp [intOf]; omega
      · obtain rfl : j = len4 := by omega
        have HH : Hid (Held w k0 k1 o0 o1 j wr) := hH
        have c00 : wr.cell? ⟨w.heap.size, 0, none⟩ = some (.int .i64 k0) := hH.b0.cell 0
        have c01 : wr.cell? ⟨w.heap.size, 1, none⟩ = some (.int .i64 k1) := hH.b0.cell 1
        have c10 : wr.cell? ⟨w.heap.size + 1, 0, none⟩ = some (.int .i64 o0) := hH.b1.cell 0
        have c11 : wr.cell? ⟨w.heap.size + 1, 1, none⟩ = some (.int .i64 o1) := hH.b1.cell 1
        clear hH
        have hnew := Blk.new wr [.int .i64 o0, .int .i64 o1, .nilIface, .int .i64 k0, .int .i64 k1, .slice none 0 0] 39
        have hbn : Below wr.heap.size wr (wr.alloc (.cells #[.int .i64 o0, .int .i64 o1, .nilIface, .int .i64 k0, .int .i64 k1, .slice none 0 0] 39)) := (Below.refl _ _).alloc (Nat.le_refl _) _
        have H1 := HH.out.grow hbn
        obtain ⟨v, xs, hb3, -⟩ := H1.b3
        have HP := pos_of (w.heap.size + 1 + 1 + 1) k0 k1 _ (hb3.cell 0) (hb3.cell 1)
        have HN : Hid (Blk (wr.alloc (.cells #[.int .i64 o0, .int .i64 o1, .nilIface, .int .i64 k0, .int .i64 k1, .slice none 0 0] 39)) wr.heap.size [.int .i64 o0, .int .i64 o1, .nilIface, .int .i64 k0, .int .i64 k1, .slice none 0 0] 39 ∧ Held w k0 k1 o0 o1 j (wr.alloc (.cells #[.int .i64 o0, .int .i64 o1, .nilIface, .int .i64 k0, .int .i64 k1, .slice none 0 0] 39))) := ⟨hnew, H1⟩
        have HP' : Hid (Calls Try.prog 15 _ _ _) := HP
        clear hnew hbn H1 hb3 HP
        go_wp2_with fail
        refine HP'.out.mono ?_
        rintro r w2 ⟨rfl, hb2⟩
        clear HP' c00 c01 c10 c11 HH HI4 HI5 hle hl4 hl5
        have g1 := HN.out.2.grow hb2
        have g2 := HN.out.1.below hb2 HN.out.1.lt
        have d0 : (w2.alloc (.cells #[.int .i64 k0, .int .i64 k1] 28)).cell? ⟨w2.heap.size, 0, none⟩ = some (.int .i64 k0) := (Blk.new w2 [.int .i64 k0, .int .i64 k1] 28).cell 0
        have d1 : (w2.alloc (.cells #[.int .i64 k0, .int .i64 k1] 28)).cell? ⟨w2.heap.size, 1, none⟩ = some (.int .i64 k1) := (Blk.new w2 [.int .i64 k0, .int .i64 k1] 28).cell 1
        have d2 : (w2.alloc (.cells #[.int .i64 k0, .int .i64 k1] 28)).cell? ⟨w.heap.size + 1 + 1, 0, none⟩ = some (.int .i64 k0) := (g1.b2.alloc _).cell 0
        have d3 : (w2.alloc (.cells #[.int .i64 k0, .int .i64 k1] 28)).cell? ⟨w.heap.size + 1 + 1, 1, none⟩ = some (.int .i64 k1) := (g1.b2.alloc _).cell 1
        have d4 : (w2.alloc (.cells #[.int .i64 k0, .int .i64 k1] 28)).cell? ⟨wr.heap.size, 0, none⟩ = some (.int .i64 o0) := (g2.alloc _).cell 0
        have d5 : (w2.alloc (.cells #[.int .i64 k0, .int .i64 k1] 28)).cell? ⟨wr.heap.size, 1, none⟩ = some (.int .i64 o1) := (g2.alloc _).cell 1
        have d6 : Below w.heap.size w (w2.alloc (.cells #[.int .i64 k0, .int .i64 k1] 28)) := g1.bel.alloc (by have := g1.size; omega) _
        clear HN g1 g2 hb2
        generalize hw3 : w2.alloc (.cells #[.int .i64 k0, .int .i64 k1] 28) = w3 at d0 d1 d2 d3 d4 d5 d6
        go_wp2_with fail
        clear hw3
        generalize w2.heap.size = B2 at d0 d1 ⊢
        generalize wr.heap.size = B3 at d4 d5 ⊢
        go_region_held (fun w' => w'.cell? ⟨B2, 0, none⟩ = some (.int .i64 k0) ∧ w'.cell? ⟨B2, 1, none⟩ = some (.int .i64 k1) ∧ w'.cell? ⟨w.heap.size + 1 + 1, 0, none⟩ = some (.int .i64 k0) ∧ w'.cell? ⟨w.heap.size + 1 + 1, 1, none⟩ = some (.int .i64 k1) ∧ w'.cell? ⟨B3, 0, none⟩ = some (.int .i64 o0) ∧ w'.cell? ⟨B3, 1, none⟩ = some (.int .i64 o1) ∧ Below w.heap.size w w')
          (first | exact keep7 (by assumption) (by assumption) | exact ⟨d0, d1, d2, d3, d4, d5, d6.drew⟩)
          (first
            | (go_at_call 8; refine (posIs_same _ _ _).mono ?_; rintro e w' ⟨rfl, hb⟩)
            | (go_at_call 15; refine (pos_of _ _ _ _ (by go_split_ands; assumption) (by go_split_ands; assumption)).mono ?_; rintro e w' ⟨rfl, hb⟩))
        go_wp2
        go_ret
        exact ⟨rfl, by go_split_ands; assumption⟩
end Go.Proofs.Qxb6614905a
