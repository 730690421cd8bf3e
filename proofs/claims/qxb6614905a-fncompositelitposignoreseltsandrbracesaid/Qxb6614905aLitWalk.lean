import Derived.Test.Qxb6614905aLit
namespace Go.Proofs.Qxb6614905a
open Go.RowKit

/-- What is read of a slice of integers. -/
def IntsL (w : World) (a : Option Addr) (len : Nat) : Prop := 0 < len → ∃ b off, a = some ⟨b, off, none⟩ ∧ b < w.heap.size ∧ ∀ j, j < len → ∃ z, w.cell? ⟨b, off + j, none⟩ = some (.int .i64 z)

/-- The full literal after j elements; all else that lay in W1 lies as it lay. -/
structure LHeld (W1 : World) (f B : Nat) (T : Value) (l0 l1 r0 r1 : Int) (j : Nat) (wr : World) : Prop where
  full : ∃ v xs, Blk wr f [T, .int .i64 l0, .int .i64 l1, v, .int .i64 r0, .int .i64 r1] 48 ∧ wr.ownsRow B 45 1 v j xs
  chg : Chg (fun b => b = f ∨ B ≤ b) W1 wr
  lt : f < B
  size : B = W1.heap.size

theorem LHeld.grow {W1 : World} {f B : Nat} {T : Value} {l0 l1 r0 r1 : Int} {j : Nat} {wr w' : World} (h : LHeld W1 f B T l0 l1 r0 r1 j wr) (hb : Below wr.heap.size wr w') : LHeld W1 f B T l0 l1 r0 r1 j w' := by
  obtain ⟨v, xs, h3, ho⟩ := h.full
  refine ⟨⟨v, xs, h3.below hb h3.lt, own_keep ho (fun b _ hbb => hb.block b hbb)⟩, h.chg.trans (Chg.of_below hb (M := fun b => b = f ∨ B ≤ b) (fun b h1 h2 => by omega)) (fun _ _ h => h), h.lt, h.size⟩

theorem LHeld.add {W1 : World} {f B : Nat} {T : Value} {l0 l1 r0 r1 : Int} {j : Nat} {wr : World} (h : LHeld W1 f B T l0 l1 r0 r1 j wr) (hj : j ≤ 5000) (bb : Nat) :
    Calls Try.prog 12 #[.pointer (some ⟨f, 0, none⟩), .pointer (some ⟨bb, 0, none⟩)] wr fun e w' => e = .returned (.tuple #[]) ∧ LHeld W1 f B T l0 l1 r0 r1 (j + 1) w' := by
  obtain ⟨v, xs, h3, ho⟩ := h.full
  have hs := h.chg.size
  have hz := h.size
  refine (addElt f B bb T l0 l1 r0 r1 v j xs wr h3 ho h.lt (by omega) hj).mono ?_
  rintro e w' ⟨rfl, ⟨v', xs', h3', ho'⟩, hc⟩
  exact ⟨rfl, ⟨v', xs', h3', ho'⟩, h.chg.trans hc (fun _ _ h => h), h.lt, h.size⟩

theorem LHeld.blk {W1 : World} {f B : Nat} {T : Value} {l0 l1 r0 r1 : Int} {j : Nat} {wr : World} (h : LHeld W1 f B T l0 l1 r0 r1 j wr) {b : Nat} {cs : List Value} {t : TypeId} (hb : Blk W1 b cs t) (hf : b ≠ f) : Blk wr b cs t :=
  hb.chg h.chg (fun e => by have := hb.lt; have := h.size; omega)

theorem LHeld.cell {W1 : World} {f B : Nat} {T : Value} {l0 l1 r0 r1 : Int} {j : Nat} {wr : World} (h : LHeld W1 f B T l0 l1 r0 r1 j wr) {b o : Nat} {v : Value} (hv : W1.cell? ⟨b, o, none⟩ = some v) (hf : b ≠ f) : wr.cell? ⟨b, o, none⟩ = some v := by
  have hb := World.block_lt_of_cell? W1 _ hv
  have hb' : b < W1.heap.size := hb
  rw [World.cell?_of_block (w := W1) (h.chg.block b hb' (fun e => by have := h.size; omega))]
  exact hv

theorem LHeld.bel {w W1 : World} {f B : Nat} {T : Value} {l0 l1 r0 r1 : Int} {j : Nat} {wr : World} (h : LHeld W1 f B T l0 l1 r0 r1 j wr) (hb : Below w.heap.size w W1) (hf : w.heap.size ≤ f) : Below w.heap.size w wr :=
  hb.trans (h.chg.below hb.size (fun b e => by have := h.lt; omega))

theorem keep4 {W w w' : World} {p1 p2 p3 p4 : Addr} {v1 v2 v3 v4 : Value} (hb : Below w.heap.size w w')
    (h : w.cell? p1 = some v1 ∧ w.cell? p2 = some v2 ∧ w.cell? p3 = some v3 ∧ w.cell? p4 = some v4 ∧ Below W.heap.size W w) :
    w'.cell? p1 = some v1 ∧ w'.cell? p2 = some v2 ∧ w'.cell? p3 = some v3 ∧ w'.cell? p4 = some v4 ∧ Below W.heap.size W w' := by
  obtain ⟨h1, h2, h3, h4, h7⟩ := h
  exact ⟨keep_cell hb h1, keep_cell hb h2, keep_cell hb h3, keep_cell hb h4, h7.trans (hb.mono h7.size)⟩

set_option maxRecDepth 100000 in
set_option maxHeartbeats 4000000 in
theorem lit_walk (t : Bool) (tl tc ll lc rl rc : Int) (a4 : Option Addr) (len4 cap4 : Nat) (a5 : Option Addr) (len5 cap5 : Nat) (w : World) (h4 : IntsL w a4 len4) (h5 : IntsL w a5 len5) :
    Calls Try.prog 4 #[.bool t, .int .i64 tl, .int .i64 tc, .int .i64 ll, .int .i64 lc, .int .i64 rl, .int .i64 rc, .slice a4 len4 cap4, .slice a5 len5 cap5] w fun e w' => e = .returned (.bool true) ∧ Below w.heap.size w w' := by
  have HI4 : Hid (IntsL w a4 len4) := h4
  have HI5 : Hid (IntsL w a5 len5) := h5
  have hbw : Below w.heap.size w w := Below.refl _ _
  clear h4 h5
  go_enter Try.func4, Try.ntmps4
  go_wp2_with fail
  refine (bytes11 t tl tc ll lc rl rc a4 len4 cap4 a5 len5 cap5 w).mono ?_
  rintro r w' ⟨ht, rfl⟩
  obtain ⟨r, rfl, -⟩ := ht
  cases r
  · go_wp2
    go_ret
    exact ⟨rfl, hbw⟩
  by_cases hl4 : len4 ≤ 4096
  case neg =>
    go_wp2
    go_ret
    exact ⟨rfl, hbw⟩
  by_cases hl5 : len5 ≤ 4096
  case neg =>
    go_wp2
    go_ret
    exact ⟨rfl, hbw⟩
  cases t
  · go_wp2_with fail
    refine (untyped_of ll lc 0 0 w).mono ?_
    rintro r w' ⟨rfl, rfl⟩
    go_wp2_with fail
    refine (untyped_of ll lc rl rc _).mono ?_
    rintro r w' ⟨rfl, rfl⟩
    have n0 := Blk.new w [.nilIface, .int .i64 ll, .int .i64 lc, .slice none 0 0, .int .i64 0, .int .i64 0] 48
    have n1 := Blk.new (w.alloc (.cells #[.nilIface, .int .i64 ll, .int .i64 lc, .slice none 0 0, .int .i64 0, .int .i64 0] 48)) [.nilIface, .int .i64 ll, .int .i64 lc, .slice none 0 0, .int .i64 rl, .int .i64 rc] 48
    have HB1 : Hid (Below w.heap.size w ((w.alloc (.cells #[.nilIface, .int .i64 ll, .int .i64 lc, .slice none 0 0, .int .i64 0, .int .i64 0] 48)).alloc (.cells #[.nilIface, .int .i64 ll, .int .i64 lc, .slice none 0 0, .int .i64 rl, .int .i64 rc] 48))) := ((Below.refl _ _).alloc (Nat.le_refl _) _).alloc (by simp) _
    simp only [World.size_alloc] at n1
    have HBL : Hid (Blk ((w.alloc (.cells #[.nilIface, .int .i64 ll, .int .i64 lc, .slice none 0 0, .int .i64 0, .int .i64 0] 48)).alloc (.cells #[.nilIface, .int .i64 ll, .int .i64 lc, .slice none 0 0, .int .i64 rl, .int .i64 rc] 48)) w.heap.size [.nilIface, .int .i64 ll, .int .i64 lc, .slice none 0 0, .int .i64 0, .int .i64 0] 48) := n0.alloc _
    have H0 : Hid (LHeld ((w.alloc (.cells #[.nilIface, .int .i64 ll, .int .i64 lc, .slice none 0 0, .int .i64 0, .int .i64 0] 48)).alloc (.cells #[.nilIface, .int .i64 ll, .int .i64 lc, .slice none 0 0, .int .i64 rl, .int .i64 rc] 48)) (w.heap.size + 1) (w.heap.size + 2) (.nilIface) ll lc rl rc 0 ((w.alloc (.cells #[.nilIface, .int .i64 ll, .int .i64 lc, .slice none 0 0, .int .i64 0, .int .i64 0] 48)).alloc (.cells #[.nilIface, .int .i64 ll, .int .i64 lc, .slice none 0 0, .int .i64 rl, .int .i64 rc] 48))) := ⟨⟨_, [], n1, ⟨rfl, .inl ⟨rfl, rfl⟩⟩⟩, Chg.refl _ _, by omega, by simp⟩
    clear n0 n1 hbw
    simp only [World.size_alloc]
    generalize (w.alloc (.cells #[.nilIface, .int .i64 ll, .int .i64 lc, .slice none 0 0, .int .i64 0, .int .i64 0] 48)).alloc (.cells #[.nilIface, .int .i64 ll, .int .i64 lc, .slice none 0 0, .int .i64 rl, .int .i64 rc] 48) = W1 at HB1 HBL H0 ⊢
    by_cases hle : len5 < len4
    · go_wp2_with fail
      go_loopw [23] (fun t wr => ∃ j : Nat, t = .int .i64 j ∧ j ≤ len5 ∧ LHeld W1 (w.heap.size + 1) (w.heap.size + 2) (.nilIface) ll lc rl rc j wr) (fun t _ => len5 - (intOf t).toNat)
      case atStart => exact ⟨0, rfl, Nat.zero_le _, H0.out⟩
      case round =>
        obtain ⟨j, rfl, hj, hH⟩ := hrel
        clear H0
        by_cases hlt : j < len5
        · obtain ⟨b4, off4, rfl, hb4, hz4⟩ := HI4.out (by omega)
          obtain ⟨b5, off5, rfl, hb5, hz5⟩ := HI5.out (by omega)
          obtain ⟨z4, hc4⟩ := hz4 j (by omega)
          obtain ⟨z5, hc5⟩ := hz5 j (by omega)
          have X4 : Hid (W1.cell? ⟨b4, off4 + j, none⟩ = some (.int .i64 z4) ∧ b4 ≠ (w.heap.size + 1)) := ⟨(HB1.out.cell (p := ⟨b4, off4 + j, none⟩) hb4).trans hc4, by omega⟩
          have X5 : Hid (W1.cell? ⟨b5, off5 + j, none⟩ = some (.int .i64 z5) ∧ b5 ≠ (w.heap.size + 1)) := ⟨(HB1.out.cell (p := ⟨b5, off5 + j, none⟩) hb5).trans hc5, by omega⟩
          have q4 : wr.cell? ⟨b4, off4 + j, none⟩ = some (.int .i64 z4) := hH.cell X4.out.1 X4.out.2
          have q5 : wr.cell? ⟨b5, off5 + j, none⟩ = some (.int .i64 z5) := hH.cell X5.out.1 X5.out.2
          have hj4 : (j : Int) < len4 := by omega
          have hj5 : (j : Int) < len5 := by omega
          have HH : Hid (LHeld W1 (w.heap.size + 1) (w.heap.size + 2) (.nilIface) ll lc rl rc j wr) := hH
          clear hH hz4 hz5 hc4 hc5 hb4 hb5
          go_wp2_with fail
          go_region_held (fun w' => w'.cell? ⟨b4, off4 + j, none⟩ = some (.int .i64 z4) ∧ w'.cell? ⟨b5, off5 + j, none⟩ = some (.int .i64 z5))
            (first | exact ⟨LHeld.cell (by assumption) X4.out.1 X4.out.2, LHeld.cell (by assumption) X5.out.1 X5.out.2⟩ | go_keep)
            (first
              | (go_at_call 7; refine (untyped_of _ _ _ _ _).mono ?_; rintro e w' ⟨rfl, rfl⟩)
              | (go_at_call 12; refine ((HH.out.grow (((Below.refl _ _).drew).alloc (Nat.le_refl _) _)).add (by omega) _).mono ?_; rintro e w7 ⟨rfl, h7⟩))
          clear q4 q5
          go_wp2
          go_roundw
          case rel => exact ⟨j + 1, by go_num, by omega, by assumption⟩
          case measure => simp [intOf]; omega
        · obtain rfl : j = len5 := by omega
          obtain ⟨v, xs, hf, -⟩ := hH.full
          have hbr := hH.blk HBL.out (by omega)
          have hbel := hH.bel HB1.out (by omega)
          have HP := posLit_bare (w.heap.size + 1) ll lc wr (hf.cell 0) (hf.cell 1) (hf.cell 2)
          have HP' : Hid (Calls Try.prog 9 _ _ _) := HP
          have HK1 : Hid (Blk wr w.heap.size [.nilIface, .int .i64 ll, .int .i64 lc, .slice none 0 0, .int .i64 0, .int .i64 0] 48) := hbr
          have HK3 : Hid (Below w.heap.size w wr) := hbel
          clear hH hf hbr hbel HP HBL HB1 HI4 HI5 hle hl4 hl5
          go_wp2_with fail
          refine HP'.out.mono ?_
          rintro r w2 ⟨rfl, hb2⟩
          have hb3 : Below wr.heap.size wr (w2.alloc (.cells #[.int .i64 ll, .int .i64 lc] 28)) := hb2.alloc hb2.size _
          have hk1 := HK1.out.below hb3 HK1.out.lt
          have HQ := posLit_bare w.heap.size ll lc (w2.alloc (.cells #[.int .i64 ll, .int .i64 lc] 28)) (hk1.cell 0) (hk1.cell 1) (hk1.cell 2)
          have HQ' : Hid (Calls Try.prog 9 _ _ _) := HQ
          have HD : Hid (Blk (w2.alloc (.cells #[.int .i64 ll, .int .i64 lc] 28)) w2.heap.size [.int .i64 ll, .int .i64 lc] 28 ∧ Below w.heap.size w (w2.alloc (.cells #[.int .i64 ll, .int .i64 lc] 28))) := ⟨Blk.new w2 [.int .i64 ll, .int .i64 lc] 28, HK3.out.trans (hb3.mono HK3.out.size)⟩
          clear HP' hb2 hb3 hk1 HQ HK1 HK3 
          go_wp2_with fail
          refine HQ'.out.mono ?_
          rintro r w4 ⟨rfl, hb4⟩
          have e1 := (HD.out.1.below hb4 HD.out.1.lt).alloc (.cells #[.int .i64 ll, .int .i64 lc] 28)
          have e2 := Blk.new w4 [.int .i64 ll, .int .i64 lc] 28
          have d0 : (w4.alloc (.cells #[.int .i64 ll, .int .i64 lc] 28)).cell? ⟨w2.heap.size, 0, none⟩ = some (.int .i64 ll) := e1.cell 0
          have d1 : (w4.alloc (.cells #[.int .i64 ll, .int .i64 lc] 28)).cell? ⟨w2.heap.size, 1, none⟩ = some (.int .i64 lc) := e1.cell 1
          have d2 : (w4.alloc (.cells #[.int .i64 ll, .int .i64 lc] 28)).cell? ⟨w4.heap.size, 0, none⟩ = some (.int .i64 ll) := e2.cell 0
          have d3 : (w4.alloc (.cells #[.int .i64 ll, .int .i64 lc] 28)).cell? ⟨w4.heap.size, 1, none⟩ = some (.int .i64 lc) := e2.cell 1
          have d6 : Below w.heap.size w (w4.alloc (.cells #[.int .i64 ll, .int .i64 lc] 28)) := (HD.out.2.trans (hb4.mono HD.out.2.size)).alloc (Nat.le_trans HD.out.2.size hb4.size) _
          clear e1 e2 hb4 HQ' HD
          generalize hw5 : (w4.alloc (.cells #[.int .i64 ll, .int .i64 lc] 28)) = w5 at d0 d1 d2 d3 d6
          go_wp2_with fail
          clear hw5
          generalize w2.heap.size = B2 at d0 d1 ⊢
          generalize w4.heap.size = B4 at d2 d3 ⊢
          refine (posIs_same _ _ _).mono ?_
          rintro e w6 ⟨rfl, hb6⟩
          obtain ⟨d0', d1', d2', d3', d6'⟩ := keep4 hb6 ⟨d0, d1, d2, d3, d6⟩
          clear d0 d1 d2 d3 d6 hb6
          go_wp2
          go_ret
          exact ⟨rfl, d6'⟩
    · go_wp2_with fail
      go_loopw [23] (fun t wr => ∃ j : Nat, t = .int .i64 j ∧ j ≤ len4 ∧ LHeld W1 (w.heap.size + 1) (w.heap.size + 2) (.nilIface) ll lc rl rc j wr) (fun t _ => len4 - (intOf t).toNat)
      case atStart => exact ⟨0, rfl, Nat.zero_le _, H0.out⟩
      case round =>
        obtain ⟨j, rfl, hj, hH⟩ := hrel
        clear H0
        by_cases hlt : j < len4
        · obtain ⟨b4, off4, rfl, hb4, hz4⟩ := HI4.out (by omega)
          obtain ⟨b5, off5, rfl, hb5, hz5⟩ := HI5.out (by omega)
          obtain ⟨z4, hc4⟩ := hz4 j (by omega)
          obtain ⟨z5, hc5⟩ := hz5 j (by omega)
          have X4 : Hid (W1.cell? ⟨b4, off4 + j, none⟩ = some (.int .i64 z4) ∧ b4 ≠ (w.heap.size + 1)) := ⟨(HB1.out.cell (p := ⟨b4, off4 + j, none⟩) hb4).trans hc4, by omega⟩
          have X5 : Hid (W1.cell? ⟨b5, off5 + j, none⟩ = some (.int .i64 z5) ∧ b5 ≠ (w.heap.size + 1)) := ⟨(HB1.out.cell (p := ⟨b5, off5 + j, none⟩) hb5).trans hc5, by omega⟩
          have q4 : wr.cell? ⟨b4, off4 + j, none⟩ = some (.int .i64 z4) := hH.cell X4.out.1 X4.out.2
          have q5 : wr.cell? ⟨b5, off5 + j, none⟩ = some (.int .i64 z5) := hH.cell X5.out.1 X5.out.2
          have hj4 : (j : Int) < len4 := by omega
          have hj5 : (j : Int) < len5 := by omega
          have HH : Hid (LHeld W1 (w.heap.size + 1) (w.heap.size + 2) (.nilIface) ll lc rl rc j wr) := hH
          clear hH hz4 hz5 hc4 hc5 hb4 hb5
          go_wp2_with fail
          go_region_held (fun w' => w'.cell? ⟨b4, off4 + j, none⟩ = some (.int .i64 z4) ∧ w'.cell? ⟨b5, off5 + j, none⟩ = some (.int .i64 z5))
            (first | exact ⟨LHeld.cell (by assumption) X4.out.1 X4.out.2, LHeld.cell (by assumption) X5.out.1 X5.out.2⟩ | go_keep)
            (first
              | (go_at_call 7; refine (untyped_of _ _ _ _ _).mono ?_; rintro e w' ⟨rfl, rfl⟩)
              | (go_at_call 12; refine ((HH.out.grow (((Below.refl _ _).drew).alloc (Nat.le_refl _) _)).add (by omega) _).mono ?_; rintro e w7 ⟨rfl, h7⟩))
          clear q4 q5
          go_wp2
          go_roundw
          case rel => exact ⟨j + 1, by go_num, by omega, by assumption⟩
          case measure => simp [intOf]; omega
        · obtain rfl : j = len4 := by omega
          obtain ⟨v, xs, hf, -⟩ := hH.full
          have hbr := hH.blk HBL.out (by omega)
          have hbel := hH.bel HB1.out (by omega)
          have HP := posLit_bare (w.heap.size + 1) ll lc wr (hf.cell 0) (hf.cell 1) (hf.cell 2)
          have HP' : Hid (Calls Try.prog 9 _ _ _) := HP
          have HK1 : Hid (Blk wr w.heap.size [.nilIface, .int .i64 ll, .int .i64 lc, .slice none 0 0, .int .i64 0, .int .i64 0] 48) := hbr
          have HK3 : Hid (Below w.heap.size w wr) := hbel
          clear hH hf hbr hbel HP HBL HB1 HI4 HI5 hle hl4 hl5
          go_wp2_with fail
          refine HP'.out.mono ?_
          rintro r w2 ⟨rfl, hb2⟩
          have hb3 : Below wr.heap.size wr (w2.alloc (.cells #[.int .i64 ll, .int .i64 lc] 28)) := hb2.alloc hb2.size _
          have hk1 := HK1.out.below hb3 HK1.out.lt
          have HQ := posLit_bare w.heap.size ll lc (w2.alloc (.cells #[.int .i64 ll, .int .i64 lc] 28)) (hk1.cell 0) (hk1.cell 1) (hk1.cell 2)
          have HQ' : Hid (Calls Try.prog 9 _ _ _) := HQ
          have HD : Hid (Blk (w2.alloc (.cells #[.int .i64 ll, .int .i64 lc] 28)) w2.heap.size [.int .i64 ll, .int .i64 lc] 28 ∧ Below w.heap.size w (w2.alloc (.cells #[.int .i64 ll, .int .i64 lc] 28))) := ⟨Blk.new w2 [.int .i64 ll, .int .i64 lc] 28, HK3.out.trans (hb3.mono HK3.out.size)⟩
          clear HP' hb2 hb3 hk1 HQ HK1 HK3 
          go_wp2_with fail
          refine HQ'.out.mono ?_
          rintro r w4 ⟨rfl, hb4⟩
          have e1 := (HD.out.1.below hb4 HD.out.1.lt).alloc (.cells #[.int .i64 ll, .int .i64 lc] 28)
          have e2 := Blk.new w4 [.int .i64 ll, .int .i64 lc] 28
          have d0 : (w4.alloc (.cells #[.int .i64 ll, .int .i64 lc] 28)).cell? ⟨w2.heap.size, 0, none⟩ = some (.int .i64 ll) := e1.cell 0
          have d1 : (w4.alloc (.cells #[.int .i64 ll, .int .i64 lc] 28)).cell? ⟨w2.heap.size, 1, none⟩ = some (.int .i64 lc) := e1.cell 1
          have d2 : (w4.alloc (.cells #[.int .i64 ll, .int .i64 lc] 28)).cell? ⟨w4.heap.size, 0, none⟩ = some (.int .i64 ll) := e2.cell 0
          have d3 : (w4.alloc (.cells #[.int .i64 ll, .int .i64 lc] 28)).cell? ⟨w4.heap.size, 1, none⟩ = some (.int .i64 lc) := e2.cell 1
          have d6 : Below w.heap.size w (w4.alloc (.cells #[.int .i64 ll, .int .i64 lc] 28)) := (HD.out.2.trans (hb4.mono HD.out.2.size)).alloc (Nat.le_trans HD.out.2.size hb4.size) _
          clear e1 e2 hb4 HQ' HD
          generalize hw5 : (w4.alloc (.cells #[.int .i64 ll, .int .i64 lc] 28)) = w5 at d0 d1 d2 d3 d6
          go_wp2_with fail
          clear hw5
          generalize w2.heap.size = B2 at d0 d1 ⊢
          generalize w4.heap.size = B4 at d2 d3 ⊢
          refine (posIs_same _ _ _).mono ?_
          rintro e w6 ⟨rfl, hb6⟩
          obtain ⟨d0', d1', d2', d3', d6'⟩ := keep4 hb6 ⟨d0, d1, d2, d3, d6⟩
          clear d0 d1 d2 d3 d6 hb6
          go_wp2
          go_ret
          exact ⟨rfl, d6'⟩
  · go_wp2_with fail
    refine (untyped_of tl tc 0 0 w).mono ?_
    rintro r w' ⟨rfl, rfl⟩
    go_wp2_with fail
    refine (typed_of w.heap.size ll lc 0 0 _).mono ?_
    rintro r w' ⟨rfl, rfl⟩
    go_wp2_with fail
    refine (typed_of w.heap.size ll lc rl rc _).mono ?_
    rintro r w' ⟨rfl, rfl⟩
    have n0 := Blk.new w [.nilIface, .int .i64 tl, .int .i64 tc, .slice none 0 0, .int .i64 0, .int .i64 0] 48
    have n1 := Blk.new (w.alloc (.cells #[.nilIface, .int .i64 tl, .int .i64 tc, .slice none 0 0, .int .i64 0, .int .i64 0] 48)) [.iface 24 (.pointer (some ⟨w.heap.size, 0, none⟩)), .int .i64 ll, .int .i64 lc, .slice none 0 0, .int .i64 0, .int .i64 0] 48
    have n2 := Blk.new ((w.alloc (.cells #[.nilIface, .int .i64 tl, .int .i64 tc, .slice none 0 0, .int .i64 0, .int .i64 0] 48)).alloc (.cells #[.iface 24 (.pointer (some ⟨w.heap.size, 0, none⟩)), .int .i64 ll, .int .i64 lc, .slice none 0 0, .int .i64 0, .int .i64 0] 48)) [.iface 24 (.pointer (some ⟨w.heap.size, 0, none⟩)), .int .i64 ll, .int .i64 lc, .slice none 0 0, .int .i64 rl, .int .i64 rc] 48
    have HB1 : Hid (Below w.heap.size w (((w.alloc (.cells #[.nilIface, .int .i64 tl, .int .i64 tc, .slice none 0 0, .int .i64 0, .int .i64 0] 48)).alloc (.cells #[.iface 24 (.pointer (some ⟨w.heap.size, 0, none⟩)), .int .i64 ll, .int .i64 lc, .slice none 0 0, .int .i64 0, .int .i64 0] 48)).alloc (.cells #[.iface 24 (.pointer (some ⟨w.heap.size, 0, none⟩)), .int .i64 ll, .int .i64 lc, .slice none 0 0, .int .i64 rl, .int .i64 rc] 48))) := (((Below.refl _ _).alloc (Nat.le_refl _) _).alloc (by simp) _).alloc (by simp; omega) _
    simp only [World.size_alloc] at n1 n2
    have HBL : Hid (Blk (((w.alloc (.cells #[.nilIface, .int .i64 tl, .int .i64 tc, .slice none 0 0, .int .i64 0, .int .i64 0] 48)).alloc (.cells #[.iface 24 (.pointer (some ⟨w.heap.size, 0, none⟩)), .int .i64 ll, .int .i64 lc, .slice none 0 0, .int .i64 0, .int .i64 0] 48)).alloc (.cells #[.iface 24 (.pointer (some ⟨w.heap.size, 0, none⟩)), .int .i64 ll, .int .i64 lc, .slice none 0 0, .int .i64 rl, .int .i64 rc] 48)) (w.heap.size + 1) [.iface 24 (.pointer (some ⟨w.heap.size, 0, none⟩)), .int .i64 ll, .int .i64 lc, .slice none 0 0, .int .i64 0, .int .i64 0] 48) := n1.alloc _
    have HTT : Hid (Blk (((w.alloc (.cells #[.nilIface, .int .i64 tl, .int .i64 tc, .slice none 0 0, .int .i64 0, .int .i64 0] 48)).alloc (.cells #[.iface 24 (.pointer (some ⟨w.heap.size, 0, none⟩)), .int .i64 ll, .int .i64 lc, .slice none 0 0, .int .i64 0, .int .i64 0] 48)).alloc (.cells #[.iface 24 (.pointer (some ⟨w.heap.size, 0, none⟩)), .int .i64 ll, .int .i64 lc, .slice none 0 0, .int .i64 rl, .int .i64 rc] 48)) w.heap.size [.nilIface, .int .i64 tl, .int .i64 tc, .slice none 0 0, .int .i64 0, .int .i64 0] 48) := (n0.alloc _).alloc _
    have H0 : Hid (LHeld (((w.alloc (.cells #[.nilIface, .int .i64 tl, .int .i64 tc, .slice none 0 0, .int .i64 0, .int .i64 0] 48)).alloc (.cells #[.iface 24 (.pointer (some ⟨w.heap.size, 0, none⟩)), .int .i64 ll, .int .i64 lc, .slice none 0 0, .int .i64 0, .int .i64 0] 48)).alloc (.cells #[.iface 24 (.pointer (some ⟨w.heap.size, 0, none⟩)), .int .i64 ll, .int .i64 lc, .slice none 0 0, .int .i64 rl, .int .i64 rc] 48)) (w.heap.size + 1 + 1) (w.heap.size + 3) (.iface 24 (.pointer (some ⟨w.heap.size, 0, none⟩))) ll lc rl rc 0 (((w.alloc (.cells #[.nilIface, .int .i64 tl, .int .i64 tc, .slice none 0 0, .int .i64 0, .int .i64 0] 48)).alloc (.cells #[.iface 24 (.pointer (some ⟨w.heap.size, 0, none⟩)), .int .i64 ll, .int .i64 lc, .slice none 0 0, .int .i64 0, .int .i64 0] 48)).alloc (.cells #[.iface 24 (.pointer (some ⟨w.heap.size, 0, none⟩)), .int .i64 ll, .int .i64 lc, .slice none 0 0, .int .i64 rl, .int .i64 rc] 48))) := ⟨⟨_, [], n2, ⟨rfl, .inl ⟨rfl, rfl⟩⟩⟩, Chg.refl _ _, by omega, by simp⟩
    clear n0 n1 n2 hbw
    simp only [World.size_alloc]
    generalize (((w.alloc (.cells #[.nilIface, .int .i64 tl, .int .i64 tc, .slice none 0 0, .int .i64 0, .int .i64 0] 48)).alloc (.cells #[.iface 24 (.pointer (some ⟨w.heap.size, 0, none⟩)), .int .i64 ll, .int .i64 lc, .slice none 0 0, .int .i64 0, .int .i64 0] 48)).alloc (.cells #[.iface 24 (.pointer (some ⟨w.heap.size, 0, none⟩)), .int .i64 ll, .int .i64 lc, .slice none 0 0, .int .i64 rl, .int .i64 rc] 48)) = W1 at HB1 HBL HTT H0 ⊢
    by_cases hle : len5 < len4
    · go_wp2_with fail
      go_loopw [23] (fun t wr => ∃ j : Nat, t = .int .i64 j ∧ j ≤ len5 ∧ LHeld W1 (w.heap.size + 1 + 1) (w.heap.size + 3) (.iface 24 (.pointer (some ⟨w.heap.size, 0, none⟩))) ll lc rl rc j wr) (fun t _ => len5 - (intOf t).toNat)
      case atStart => exact ⟨0, rfl, Nat.zero_le _, H0.out⟩
      case round =>
        obtain ⟨j, rfl, hj, hH⟩ := hrel
        clear H0
        by_cases hlt : j < len5
        · obtain ⟨b4, off4, rfl, hb4, hz4⟩ := HI4.out (by omega)
          obtain ⟨b5, off5, rfl, hb5, hz5⟩ := HI5.out (by omega)
          obtain ⟨z4, hc4⟩ := hz4 j (by omega)
          obtain ⟨z5, hc5⟩ := hz5 j (by omega)
          have X4 : Hid (W1.cell? ⟨b4, off4 + j, none⟩ = some (.int .i64 z4) ∧ b4 ≠ (w.heap.size + 1 + 1)) := ⟨(HB1.out.cell (p := ⟨b4, off4 + j, none⟩) hb4).trans hc4, by omega⟩
          have X5 : Hid (W1.cell? ⟨b5, off5 + j, none⟩ = some (.int .i64 z5) ∧ b5 ≠ (w.heap.size + 1 + 1)) := ⟨(HB1.out.cell (p := ⟨b5, off5 + j, none⟩) hb5).trans hc5, by omega⟩
          have q4 : wr.cell? ⟨b4, off4 + j, none⟩ = some (.int .i64 z4) := hH.cell X4.out.1 X4.out.2
          have q5 : wr.cell? ⟨b5, off5 + j, none⟩ = some (.int .i64 z5) := hH.cell X5.out.1 X5.out.2
          have hj4 : (j : Int) < len4 := by omega
          have hj5 : (j : Int) < len5 := by omega
          have HH : Hid (LHeld W1 (w.heap.size + 1 + 1) (w.heap.size + 3) (.iface 24 (.pointer (some ⟨w.heap.size, 0, none⟩))) ll lc rl rc j wr) := hH
          clear hH hz4 hz5 hc4 hc5 hb4 hb5
          go_wp2_with fail
          go_region_held (fun w' => w'.cell? ⟨b4, off4 + j, none⟩ = some (.int .i64 z4) ∧ w'.cell? ⟨b5, off5 + j, none⟩ = some (.int .i64 z5))
            (first | exact ⟨LHeld.cell (by assumption) X4.out.1 X4.out.2, LHeld.cell (by assumption) X5.out.1 X5.out.2⟩ | go_keep)
            (first
              | (go_at_call 7; refine (untyped_of _ _ _ _ _).mono ?_; rintro e w' ⟨rfl, rfl⟩)
              | (go_at_call 12; refine ((HH.out.grow (((Below.refl _ _).drew).alloc (Nat.le_refl _) _)).add (by omega) _).mono ?_; rintro e w7 ⟨rfl, h7⟩))
          clear q4 q5
          go_wp2
          go_roundw
          case rel => exact ⟨j + 1, by go_num, by omega, by assumption⟩
          case measure => simp [intOf]; omega
        · obtain rfl : j = len5 := by omega
          obtain ⟨v, xs, hf, -⟩ := hH.full
          have hbr := hH.blk HBL.out (by omega)
          have hT := hH.blk HTT.out (by omega)
          have hbel := hH.bel HB1.out (by omega)
          have HP := posLit_typed (w.heap.size + 1 + 1) w.heap.size tl tc wr (hf.cell 0) (hT.cell 0) (hT.cell 1) (hT.cell 2)
          have HP' : Hid (Calls Try.prog 9 _ _ _) := HP
          have HK1 : Hid (Blk wr (w.heap.size + 1) [.iface 24 (.pointer (some ⟨w.heap.size, 0, none⟩)), .int .i64 ll, .int .i64 lc, .slice none 0 0, .int .i64 0, .int .i64 0] 48) := hbr
          have HK2 : Hid (Blk wr w.heap.size [.nilIface, .int .i64 tl, .int .i64 tc, .slice none 0 0, .int .i64 0, .int .i64 0] 48) := hT
          clear hT
          have HK3 : Hid (Below w.heap.size w wr) := hbel
          clear hH hf hbr hbel HP HBL HB1 HI4 HI5 hle hl4 hl5
          go_wp2_with fail
          refine HP'.out.mono ?_
          rintro r w2 ⟨rfl, hb2⟩
          have hb3 : Below wr.heap.size wr (w2.alloc (.cells #[.int .i64 tl, .int .i64 tc] 28)) := hb2.alloc hb2.size _
          have hk1 := HK1.out.below hb3 HK1.out.lt
          have hk2 := HK2.out.below hb3 HK2.out.lt
          have HQ := posLit_typed (w.heap.size + 1) w.heap.size tl tc (w2.alloc (.cells #[.int .i64 tl, .int .i64 tc] 28)) (hk1.cell 0) (hk2.cell 0) (hk2.cell 1) (hk2.cell 2)
          have HQ' : Hid (Calls Try.prog 9 _ _ _) := HQ
          have HD : Hid (Blk (w2.alloc (.cells #[.int .i64 tl, .int .i64 tc] 28)) w2.heap.size [.int .i64 tl, .int .i64 tc] 28 ∧ Below w.heap.size w (w2.alloc (.cells #[.int .i64 tl, .int .i64 tc] 28))) := ⟨Blk.new w2 [.int .i64 tl, .int .i64 tc] 28, HK3.out.trans (hb3.mono HK3.out.size)⟩
          clear HP' hb2 hb3 hk1 HQ HK1 HK3 hk2 HK2
          go_wp2_with fail
          refine HQ'.out.mono ?_
          rintro r w4 ⟨rfl, hb4⟩
          have e1 := (HD.out.1.below hb4 HD.out.1.lt).alloc (.cells #[.int .i64 tl, .int .i64 tc] 28)
          have e2 := Blk.new w4 [.int .i64 tl, .int .i64 tc] 28
          have d0 : (w4.alloc (.cells #[.int .i64 tl, .int .i64 tc] 28)).cell? ⟨w2.heap.size, 0, none⟩ = some (.int .i64 tl) := e1.cell 0
          have d1 : (w4.alloc (.cells #[.int .i64 tl, .int .i64 tc] 28)).cell? ⟨w2.heap.size, 1, none⟩ = some (.int .i64 tc) := e1.cell 1
          have d2 : (w4.alloc (.cells #[.int .i64 tl, .int .i64 tc] 28)).cell? ⟨w4.heap.size, 0, none⟩ = some (.int .i64 tl) := e2.cell 0
          have d3 : (w4.alloc (.cells #[.int .i64 tl, .int .i64 tc] 28)).cell? ⟨w4.heap.size, 1, none⟩ = some (.int .i64 tc) := e2.cell 1
          have d6 : Below w.heap.size w (w4.alloc (.cells #[.int .i64 tl, .int .i64 tc] 28)) := (HD.out.2.trans (hb4.mono HD.out.2.size)).alloc (Nat.le_trans HD.out.2.size hb4.size) _
          clear e1 e2 hb4 HQ' HD
          generalize hw5 : (w4.alloc (.cells #[.int .i64 tl, .int .i64 tc] 28)) = w5 at d0 d1 d2 d3 d6
          go_wp2_with fail
          clear hw5
          generalize w2.heap.size = B2 at d0 d1 ⊢
          generalize w4.heap.size = B4 at d2 d3 ⊢
          refine (posIs_same _ _ _).mono ?_
          rintro e w6 ⟨rfl, hb6⟩
          obtain ⟨d0', d1', d2', d3', d6'⟩ := keep4 hb6 ⟨d0, d1, d2, d3, d6⟩
          clear d0 d1 d2 d3 d6 hb6
          go_wp2
          go_ret
          exact ⟨rfl, d6'⟩
    · go_wp2_with fail
      go_loopw [23] (fun t wr => ∃ j : Nat, t = .int .i64 j ∧ j ≤ len4 ∧ LHeld W1 (w.heap.size + 1 + 1) (w.heap.size + 3) (.iface 24 (.pointer (some ⟨w.heap.size, 0, none⟩))) ll lc rl rc j wr) (fun t _ => len4 - (intOf t).toNat)
      case atStart => exact ⟨0, rfl, Nat.zero_le _, H0.out⟩
      case round =>
        obtain ⟨j, rfl, hj, hH⟩ := hrel
        clear H0
        by_cases hlt : j < len4
        · obtain ⟨b4, off4, rfl, hb4, hz4⟩ := HI4.out (by omega)
          obtain ⟨b5, off5, rfl, hb5, hz5⟩ := HI5.out (by omega)
          obtain ⟨z4, hc4⟩ := hz4 j (by omega)
          obtain ⟨z5, hc5⟩ := hz5 j (by omega)
          have X4 : Hid (W1.cell? ⟨b4, off4 + j, none⟩ = some (.int .i64 z4) ∧ b4 ≠ (w.heap.size + 1 + 1)) := ⟨(HB1.out.cell (p := ⟨b4, off4 + j, none⟩) hb4).trans hc4, by omega⟩
          have X5 : Hid (W1.cell? ⟨b5, off5 + j, none⟩ = some (.int .i64 z5) ∧ b5 ≠ (w.heap.size + 1 + 1)) := ⟨(HB1.out.cell (p := ⟨b5, off5 + j, none⟩) hb5).trans hc5, by omega⟩
          have q4 : wr.cell? ⟨b4, off4 + j, none⟩ = some (.int .i64 z4) := hH.cell X4.out.1 X4.out.2
          have q5 : wr.cell? ⟨b5, off5 + j, none⟩ = some (.int .i64 z5) := hH.cell X5.out.1 X5.out.2
          have hj4 : (j : Int) < len4 := by omega
          have hj5 : (j : Int) < len5 := by omega
          have HH : Hid (LHeld W1 (w.heap.size + 1 + 1) (w.heap.size + 3) (.iface 24 (.pointer (some ⟨w.heap.size, 0, none⟩))) ll lc rl rc j wr) := hH
          clear hH hz4 hz5 hc4 hc5 hb4 hb5
          go_wp2_with fail
          go_region_held (fun w' => w'.cell? ⟨b4, off4 + j, none⟩ = some (.int .i64 z4) ∧ w'.cell? ⟨b5, off5 + j, none⟩ = some (.int .i64 z5))
            (first | exact ⟨LHeld.cell (by assumption) X4.out.1 X4.out.2, LHeld.cell (by assumption) X5.out.1 X5.out.2⟩ | go_keep)
            (first
              | (go_at_call 7; refine (untyped_of _ _ _ _ _).mono ?_; rintro e w' ⟨rfl, rfl⟩)
              | (go_at_call 12; refine ((HH.out.grow (((Below.refl _ _).drew).alloc (Nat.le_refl _) _)).add (by omega) _).mono ?_; rintro e w7 ⟨rfl, h7⟩))
          clear q4 q5
          go_wp2
          go_roundw
          case rel => exact ⟨j + 1, by go_num, by omega, by assumption⟩
          case measure => simp [intOf]; omega
        · obtain rfl : j = len4 := by omega
          obtain ⟨v, xs, hf, -⟩ := hH.full
          have hbr := hH.blk HBL.out (by omega)
          have hT := hH.blk HTT.out (by omega)
          have hbel := hH.bel HB1.out (by omega)
          have HP := posLit_typed (w.heap.size + 1 + 1) w.heap.size tl tc wr (hf.cell 0) (hT.cell 0) (hT.cell 1) (hT.cell 2)
          have HP' : Hid (Calls Try.prog 9 _ _ _) := HP
          have HK1 : Hid (Blk wr (w.heap.size + 1) [.iface 24 (.pointer (some ⟨w.heap.size, 0, none⟩)), .int .i64 ll, .int .i64 lc, .slice none 0 0, .int .i64 0, .int .i64 0] 48) := hbr
          have HK2 : Hid (Blk wr w.heap.size [.nilIface, .int .i64 tl, .int .i64 tc, .slice none 0 0, .int .i64 0, .int .i64 0] 48) := hT
          clear hT
          have HK3 : Hid (Below w.heap.size w wr) := hbel
          clear hH hf hbr hbel HP HBL HB1 HI4 HI5 hle hl4 hl5
          go_wp2_with fail
          refine HP'.out.mono ?_
          rintro r w2 ⟨rfl, hb2⟩
          have hb3 : Below wr.heap.size wr (w2.alloc (.cells #[.int .i64 tl, .int .i64 tc] 28)) := hb2.alloc hb2.size _
          have hk1 := HK1.out.below hb3 HK1.out.lt
          have hk2 := HK2.out.below hb3 HK2.out.lt
          have HQ := posLit_typed (w.heap.size + 1) w.heap.size tl tc (w2.alloc (.cells #[.int .i64 tl, .int .i64 tc] 28)) (hk1.cell 0) (hk2.cell 0) (hk2.cell 1) (hk2.cell 2)
          have HQ' : Hid (Calls Try.prog 9 _ _ _) := HQ
          have HD : Hid (Blk (w2.alloc (.cells #[.int .i64 tl, .int .i64 tc] 28)) w2.heap.size [.int .i64 tl, .int .i64 tc] 28 ∧ Below w.heap.size w (w2.alloc (.cells #[.int .i64 tl, .int .i64 tc] 28))) := ⟨Blk.new w2 [.int .i64 tl, .int .i64 tc] 28, HK3.out.trans (hb3.mono HK3.out.size)⟩
          clear HP' hb2 hb3 hk1 HQ HK1 HK3 hk2 HK2
          go_wp2_with fail
          refine HQ'.out.mono ?_
          rintro r w4 ⟨rfl, hb4⟩
          have e1 := (HD.out.1.below hb4 HD.out.1.lt).alloc (.cells #[.int .i64 tl, .int .i64 tc] 28)
          have e2 := Blk.new w4 [.int .i64 tl, .int .i64 tc] 28
          have d0 : (w4.alloc (.cells #[.int .i64 tl, .int .i64 tc] 28)).cell? ⟨w2.heap.size, 0, none⟩ = some (.int .i64 tl) := e1.cell 0
          have d1 : (w4.alloc (.cells #[.int .i64 tl, .int .i64 tc] 28)).cell? ⟨w2.heap.size, 1, none⟩ = some (.int .i64 tc) := e1.cell 1
          have d2 : (w4.alloc (.cells #[.int .i64 tl, .int .i64 tc] 28)).cell? ⟨w4.heap.size, 0, none⟩ = some (.int .i64 tl) := e2.cell 0
          have d3 : (w4.alloc (.cells #[.int .i64 tl, .int .i64 tc] 28)).cell? ⟨w4.heap.size, 1, none⟩ = some (.int .i64 tc) := e2.cell 1
          have d6 : Below w.heap.size w (w4.alloc (.cells #[.int .i64 tl, .int .i64 tc] 28)) := (HD.out.2.trans (hb4.mono HD.out.2.size)).alloc (Nat.le_trans HD.out.2.size hb4.size) _
          clear e1 e2 hb4 HQ' HD
          generalize hw5 : (w4.alloc (.cells #[.int .i64 tl, .int .i64 tc] 28)) = w5 at d0 d1 d2 d3 d6
          go_wp2_with fail
          clear hw5
          generalize w2.heap.size = B2 at d0 d1 ⊢
          generalize w4.heap.size = B4 at d2 d3 ⊢
          refine (posIs_same _ _ _).mono ?_
          rintro e w6 ⟨rfl, hb6⟩
          obtain ⟨d0', d1', d2', d3', d6'⟩ := keep4 hb6 ⟨d0, d1, d2, d3, d6⟩
          clear d0 d1 d2 d3 d6 hb6
          go_wp2
          go_ret
          exact ⟨rfl, d6'⟩
end Go.Proofs.Qxb6614905a
