import Derived.Test.Qxb6615962aFmtEnv
import Derived.Deep.DeepCutAuto
import Derived.Deep.RegionHeld3
import Derived.Deep.AppendLies
namespace Go.Proofs.Qxb6615962aFmt
open Go.RowKit Go.Shelf Go.Extern.Stop Go.Stop Go.Extern
set_option linter.unusedSimpArgs false

/-- A slice of clock ranges. -/
def Times (tv : Value) (tms : List (Nat × Nat)) (w : World) : Prop :=
  ∃ ao cap, tv = .slice ao tms.length cap ∧ (0 < tms.length → ∃ g, ao = some ⟨g, 0, none⟩ ∧ g < w.heap.size ∧ ∀ j, j < tms.length → w.cell? ⟨g, j * 2, none⟩ = some (.int .i64 (tms.getD j (0, 0)).1) ∧ w.cell? ⟨g, j * 2 + 1, none⟩ = some (.int .i64 (tms.getD j (0, 0)).2))

theorem Times.below {tv : Value} {tms : List (Nat × Nat)} {w w' : World} (h : Times tv tms w) (hb : Below w.heap.size w w') : Times tv tms w' := by
  obtain ⟨ao, cap, hv, hc⟩ := h
  refine ⟨ao, cap, hv, fun h0 => ?_⟩
  obtain ⟨g, ha, hg, hcell⟩ := hc h0
  refine ⟨g, ha, Nat.lt_of_lt_of_le hg hb.size, fun j hj => ?_⟩
  rw [hb.cell (p := ⟨g, j * 2, none⟩) hg, hb.cell (p := ⟨g, j * 2 + 1, none⟩) hg]
  exact hcell j hj

/-- A clause as ZZnewItemClause makes it. -/
structure Cl (bC bD : Nat) (ms : List Nat) (p : ByteArray) (wd : Nat) (tv : Value) (tms : List (Nat × Nat)) (w : World) : Prop where
  c : Blk w bC [.string ⟨#[]⟩, .string ⟨#[]⟩, .pointer (some ⟨bD, 0, none⟩), .int .u64 wd, tv] 49
  d : Blk w bD (mcells ms ++ [.string p]) 44
  t : Times tv tms w

theorem Cl.below {bC bD : Nat} {ms : List Nat} {p : ByteArray} {wd : Nat} {tv : Value} {tms : List (Nat × Nat)} {w w' : World} (h : Cl bC bD ms p wd tv tms w) (hb : Below w.heap.size w w') : Cl bC bD ms p wd tv tms w' :=
  ⟨h.c.below hb h.c.lt, h.d.below hb h.d.lt, h.t.below hb⟩

def dayL (ms : List Nat) : List (List UInt8) := (groups (valsFrom (dlast ms 12) 0)).map (txt intT)
def monL (ms : List Nat) : List (List UInt8) := (groups (valsFrom (mset ms 12) 0)).map (txt intT)
def yearL (p : ByteArray) : List (List UInt8) := (yearRuns p (p.size / 4)).map (txt fun x => four x.toNat)
def weekL (wd : Nat) : List (List UInt8) := (groups (valsFrom wd 0)).map (txt fun x => wdT x.toNat)
def timeT (x : Nat × Nat) : List UInt8 := clock x.1 ++ ([45] ++ clock x.2)
def timeL (tms : List (Nat × Nat)) : List (List UInt8) := tms.map timeT

def opt (b : Bool) (t : List UInt8) : List UInt8 := if b then t else []

/-- The text of a clause, as the program writes it. -/
def itemT (ms : List Nat) (p : ByteArray) (wd : Nat) (tms : List (Nat × Nat)) (ps : Nat) : List UInt8 :=
  [116, 105, 109, 101] ++ opt (ps.testBit 0) (setT [100, 97, 121] (dayL ms)) ++ opt (ps.testBit 1) (setT [109, 111, 110, 116, 104] (monL ms)) ++ opt (ps.testBit 2) (setT [121, 101, 97, 114] (yearL p)) ++
    opt (ps.testBit 3) (setT [] (weekL wd)) ++ opt (ps.testBit 4) (setT [] (timeL tms)) ++ [59]

theorem setT_len (word : List UInt8) (ts : List (List UInt8)) (c n : Nat) (hw : word.length ≤ 10) (hc : ∀ t ∈ ts, t.length ≤ c) (hn : ts.length ≤ n) : (setT word ts).length ≤ 20 + (c + 2) * n ∧ (Lib.join ts [44, 32]).length ≤ (c + 2) * n := by
  have h1 := join_len c ts hc
  have h2 : (c + 2) * ts.length ≤ (c + 2) * n := Nat.mul_le_mul_left _ hn
  refine ⟨?_, by omega⟩
  unfold setT
  simp only [List.length_append, List.length_cons, List.length_nil]
  split
  · simp only [List.length_nil]; omega
  · simp only [List.length_append, List.length_cons, List.length_nil]; omega

theorem opt_len (b : Bool) (t : List UInt8) (n : Nat) (h : t.length ≤ n) : (opt b t).length ≤ n := by
  unfold opt; split
  · exact h
  · simp

theorem days_len (s : Nat) (nm : Int → List UInt8) (h : ∀ x, (nm x).length ≤ 3) : (∀ t ∈ (groups (valsFrom s 0)).map (txt nm), t.length ≤ 7) ∧ ((groups (valsFrom s 0)).map (txt nm)).length ≤ 64 := by
  refine ⟨fun t ht => ?_, by rw [List.length_map]; exact Nat.le_trans (groups_len _) (valsFrom_len _ _)⟩
  obtain ⟨p, _, rfl⟩ := List.mem_map.1 ht
  exact txt_len nm 3 h p

/-- What the program's text is told of the five sets: the sizes of the parts. -/
structure Sz (ms : List Nat) (p : ByteArray) (wd : Nat) (tms : List (Nat × Nat)) : Prop where
  d : (setT [100, 97, 121] (dayL ms)).length ≤ 1000 ∧ (Lib.join (dayL ms) [44, 32]).length ≤ 1000 ∧ (dayL ms).length ≤ 64
  m : (setT [109, 111, 110, 116, 104] (monL ms)).length ≤ 1000 ∧ (Lib.join (monL ms) [44, 32]).length ≤ 1000 ∧ (monL ms).length ≤ 64
  y : (setT [121, 101, 97, 114] (yearL p)).length ≤ 2000000 ∧ (Lib.join (yearL p) [44, 32]).length ≤ 2000000 ∧ (yearL p).length ≤ 131072
  w : (setT [] (weekL wd)).length ≤ 1000 ∧ (Lib.join (weekL wd) [44, 32]).length ≤ 1000 ∧ (weekL wd).length ≤ 64
  t : (setT [] (timeL tms)).length ≤ 1000000 ∧ (Lib.join (timeL tms) [44, 32]).length ≤ 1000000 ∧ (timeL tms).length ≤ 32768

theorem sz_of (ms : List Nat) (p : ByteArray) (wd : Nat) (tms : List (Nat × Nat)) (hp : p.size ≤ 524288) (ht : tms.length ≤ 32768) : Sz ms p wd tms := by
  have h1 := days_len (dlast ms 12) intT intT_len
  have h2 := days_len (mset ms 12) intT intT_len
  have h3 := days_len wd (fun x => wdT x.toNat) (fun x => wdT_len _)
  have h4 : (∀ t ∈ yearL p, t.length ≤ 9) ∧ (yearL p).length ≤ 131072 := by
    refine ⟨fun t hh => ?_, by unfold yearL; rw [List.length_map, yearRuns_len]; omega⟩
    obtain ⟨q, _, rfl⟩ := List.mem_map.1 hh
    exact txt_len _ 4 (fun x => by simp [four, two]) q
  have h5 : (∀ t ∈ timeL tms, t.length ≤ 9) ∧ (timeL tms).length ≤ 32768 := by
    refine ⟨fun t hh => ?_, by unfold timeL; rw [List.length_map]; exact ht⟩
    obtain ⟨q, _, rfl⟩ := List.mem_map.1 hh
    simp [timeT, clock, two]
  have a1 := setT_len [100, 97, 121] (dayL ms) 7 64 (by simp) h1.1 h1.2
  have a2 := setT_len [109, 111, 110, 116, 104] (monL ms) 7 64 (by simp) h2.1 h2.2
  have a3 := setT_len [121, 101, 97, 114] (yearL p) 9 131072 (by simp) h4.1 h4.2
  have a4 := setT_len [] (weekL wd) 7 64 (by simp) h3.1 h3.2
  have a5 := setT_len [] (timeL tms) 9 32768 (by simp) h5.1 h5.2
  exact ⟨⟨by omega, by omega, h1.2⟩, ⟨by omega, by omega, h2.2⟩, ⟨by omega, by omega, h4.2⟩, ⟨by omega, by omega, h3.2⟩, ⟨by omega, by omega, h5.2⟩⟩

/-- What stands between two parts: the builder, and all that lay. -/
structure Mid (w : World) (txt : List UInt8) (W : World) : Prop where
  b : Bld w.heap.size w.heap.size txt W
  bel : Below w.heap.size w W

/-- The slice v owns its row, from base on. -/
def RowAt (base : Nat) (v : Value) (i : Nat) (xs : List Value) (w : World) : Prop := w.ownsRow base 9 1 v i xs ∧ base ≤ w.heap.size
theorem RowAt.below {base : Nat} {v : Value} {i : Nat} {xs : List Value} {w w' : World} (h : RowAt base v i xs w) (hb : Below w.heap.size w w') : RowAt base v i xs w' := by
  refine ⟨h.1.kept (row := none) ⟨hb.os, hb.tape, hb.output, hb.size, fun k hk _ => hb.block k hk⟩ ?_, Nat.le_trans h.2 hb.size⟩
  cases v.ownBlock with
  | none => exact .inl rfl
  | some k => exact .inr (by simp)

/-- What holds throughout the region that writes one clock range. -/
def Sr (base Bx : Nat) (xs xe : Nat) (W w : World) : Prop := w.cell? ⟨Bx, 0, none⟩ = some (.int .i64 xs) ∧ w.cell? ⟨Bx, 1, none⟩ = some (.int .i64 xe) ∧ Blk w Bx [.int .i64 xs, .int .i64 xe] 47 ∧ Below base W w

theorem keep_call {base Bx xs xe : Nat} {W w w' : World} (h : Sr base Bx xs xe W w) (hW : base ≤ W.heap.size) (hb : Below w.heap.size w w') : Sr base Bx xs xe W w' :=
  ⟨keep_cell hb h.1, keep_cell hb h.2.1, h.2.2.1.below hb h.2.2.1.lt, h.2.2.2.trans (hb.mono (Nat.le_trans hW h.2.2.2.size))⟩
theorem keep_new {base Bx xs xe : Nat} {W w : World} (h : Sr base Bx xs xe W w) (hW : base ≤ W.heap.size) (o : Obj) : Sr base Bx xs xe W (w.alloc o) :=
  keep_call h hW ((Below.refl _ w).alloc (Nat.le_refl _) o)
theorem keep_app {base Bx xs xe : Nat} {W w w' : World} {v : Value} {i : Nat} {ts : List Value} (h : Sr base Bx xs xe W w) (hr : w.ownsRow base 9 1 v i ts) (hg : w.grownBy w' v.ownBlock) (hW : base ≤ W.heap.size) : Sr base Bx xs xe W w' := by
  have hne : some Bx ≠ v.ownBlock := by
    intro e
    rcases hr.2 with ⟨rfl, _⟩ | ⟨g, cap, cur, rfl, _, hgb, _⟩
    · simp [Value.ownBlock] at e
    · simp only [Value.ownBlock, Option.some.injEq] at e
      subst e
      have := h.2.2.1
      unfold Blk at this
      rw [hgb] at this
      simp at this
  have hbk : Blk w' Bx [.int .i64 xs, .int .i64 xe] 47 := (hg.block _ h.2.2.1.lt hne).trans h.2.2.1
  exact ⟨hbk.cell 0, hbk.cell 1, hbk, h.2.2.2.grown hg (Nat.le_trans hW h.2.2.2.size) (fun k hk => (hr.lt k hk).1)⟩

theorem clockText_s (n : Nat) (hn : n ≤ 1440) (w : World) :
    Calls Tryf.prog 29 #[.int .i64 n] w fun e w' => e = .returned (.string ⟨(clock n).toArray⟩) ∧ Below w.heap.size w w' := clockText_any n hn w

set_option maxRecDepth 100000 in
set_option maxHeartbeats 2000000 in
theorem item_any (F : Interp) (gN n₀ bC bD : Nat) (ms : List Nat) (p : ByteArray) (wd : Nat) (tv : Value) (tms : List (Nat × Nat)) (ps : Nat) (w : World) (hE : Env F gN n₀ w) (hC : Cl bC bD ms p wd tv tms w)
    (h12 : ms.length = 12) (hps : ps < 18446744073709551616) (hd : dlast ms 12 < 18446744073709551616) (hd32 : (dlast ms 12).testBit 32 = false) (hp : p.size ≤ 524288) (hy : ∀ i, i < p.size / 4 → yr p (4 * i) < 10000 ∧ yr p (4 * i + 2) < 10000) (hwd : wd < 128)
    (ht : tms.length ≤ 32768) (htm : ∀ x ∈ tms, x.1 ≤ 1440 ∧ x.2 ≤ 1440) :
    Calls Tryf.prog 14 #[.pointer (some ⟨bC, 0, none⟩), .int .u64 ps] w fun e w' => e = .returned (sv (itemT ms p wd tms ps)) ∧ Below w.heap.size w w' := by
  have hS := sz_of ms p wd tms hp ht
  have c2 : w.cell? ⟨bC, 2, none⟩ = some (.pointer (some ⟨bD, 0, none⟩)) := hC.c.cell 2
  have HH : Hid (Env F gN n₀ w ∧ Cl bC bD ms p wd tv tms w ∧ Sz ms p wd tms) := ⟨hE, hC, hS⟩
  have HM := months_any bD ms p w hC.d h12
  have HM' : Hid (Calls Tryf.prog 19 _ _ _) := HM
  have hB0 : Bld w.heap.size w.heap.size [] (w.alloc (.cells #[.pointer none, .slice none 0 0] 58)) := by
    refine ⟨.inl ⟨Nat.le_refl _, .slice none 0 0, heap_alloc_new w _, World.ownsRowF_of (World.ownsRow_nil _ _ _ _), by simp [Value.ownBlock]⟩, by simp⟩
  have hM0 : Hid (Mid w [] (w.alloc (.cells #[.pointer none, .slice none 0 0] 58))) := ⟨hB0, (Below.refl _ w).alloc (Nat.le_refl _) _⟩
  clear hE hC hS HM hB0
  have HA : Hid ((∀ w', Calls Tryf.prog 21 #[.int .u64 ps, .int .i64 0] w' fun e w'' => e = .returned (.bool (ps.testBit 0)) ∧ w' = w'') ∧ (∀ w', Calls Tryf.prog 21 #[.int .u64 ps, .int .i64 1] w' fun e w'' => e = .returned (.bool (ps.testBit 1)) ∧ w' = w'') ∧ (∀ w', Calls Tryf.prog 21 #[.int .u64 ps, .int .i64 2] w' fun e w'' => e = .returned (.bool (ps.testBit 2)) ∧ w' = w'') ∧ (∀ w', Calls Tryf.prog 21 #[.int .u64 ps, .int .i64 3] w' fun e w'' => e = .returned (.bool (ps.testBit 3)) ∧ w' = w'') ∧ (∀ w', Calls Tryf.prog 21 #[.int .u64 ps, .int .i64 4] w' fun e w'' => e = .returned (.bool (ps.testBit 4)) ∧ w' = w'')) :=
    ⟨fun w' => has_any ps 0 w' hps (by omega), fun w' => has_any ps 1 w' hps (by omega), fun w' => has_any ps 2 w' hps (by omega), fun w' => has_any ps 3 w' hps (by omega), fun w' => has_any ps 4 w' hps (by omega)⟩
  obtain ⟨b0, hb0⟩ : ∃ b0, ps.testBit 0 = b0 := ⟨_, rfl⟩
  obtain ⟨b1, hb1⟩ : ∃ b1, ps.testBit 1 = b1 := ⟨_, rfl⟩
  obtain ⟨b2, hb2⟩ : ∃ b2, ps.testBit 2 = b2 := ⟨_, rfl⟩
  obtain ⟨b3, hb3⟩ : ∃ b3, ps.testBit 3 = b3 := ⟨_, rfl⟩
  obtain ⟨b4, hb4⟩ : ∃ b4, ps.testBit 4 = b4 := ⟨_, rfl⟩
  rw [hb0, hb1, hb2, hb3, hb4] at HA
  have HB : Hid (ps.testBit 0 = b0 ∧ ps.testBit 1 = b1 ∧ ps.testBit 2 = b2 ∧ ps.testBit 3 = b3 ∧ ps.testBit 4 = b4) := ⟨hb0, hb1, hb2, hb3, hb4⟩
  clear hb0 hb1 hb2 hb3 hb4
  go_enter Tryf.func14, Tryf.ntmps14
  go_wp2_with fail
  refine HM'.out.mono ?_
  rintro e w' ⟨rfl, rfl⟩
  clear HM'
  go_wp2_with fail
  refine (ws_any _ _ _ _ _ hM0.out.b (by simp)).mono ?_
  rintro e w1 ⟨rfl, hb1, hk1⟩
  have hM1 : Hid (Mid w [116, 105, 109, 101] w1) := ⟨hb1, hM0.out.bel.trans hk1.1⟩
  clear hb1 hk1 hM0
  go_wp2_with fail
  refine (HA.out.1 w1).mono ?_
  rintro e w' ⟨rfl, rfl⟩
  go_upto_if 21 with fail
  go_cut [] (fun wx => Mid w ([116, 105, 109, 101] ++ opt b0 (setT [100, 97, 121] (dayL ms))) wx)
  case first =>
    cases b0
    · go_wp2
      go_meet
      case rel =>
        show Mid w ([116, 105, 109, 101] ++ []) w1
        rw [List.append_nil]; exact hM1.out
    · skip
      go_wp2_with fail
      refine (texts_days F gN n₀ (dlast ms 12) w1 ((HH.out.1).below (hM1.out.bel.mono HH.out.1.size)) hd hd32).mono ?_
      rintro e w2 ⟨v, rfl, hs2, hb2⟩
      go_wp2_with fail
      refine (writeSet_any w.heap.size w.heap.size _ [100, 97, 121] (dayL ms) v w2 (hM1.out.b.below hb2) hs2 (by simp) (by have := HH.out.2.2.d.2.2; omega) (by have := HH.out.2.2.d.2.1; simp only [List.length_append, List.length_cons, List.length_nil]; omega)).mono ?_
      rintro e w3 ⟨rfl, hb3, hk3⟩
      go_wp2
      go_meet
      case rel => exact ⟨hb3, hM1.out.bel.trans ((hb2.mono hM1.out.bel.size).trans hk3)⟩
  case rest =>
    have hM2 : Hid (Mid w ([116, 105, 109, 101] ++ opt b0 (setT [100, 97, 121] (dayL ms))) wc) := hcut
    clear hcut hM1
    go_wp2_with fail
    refine (HA.out.2.1 wc).mono ?_
    rintro e w' ⟨rfl, rfl⟩
    generalize wc = w11 at *
    go_upto_if 27 with fail
    go_cut [] (fun wx => Mid w ([116, 105, 109, 101] ++ opt b0 (setT [100, 97, 121] (dayL ms)) ++ opt b1 (setT [109, 111, 110, 116, 104] (monL ms))) wx)
    case first =>
      cases b1
      · go_wp2
        go_meet
        case rel =>
          show Mid w ([116, 105, 109, 101] ++ opt b0 (setT [100, 97, 121] (dayL ms)) ++ []) w11
          rw [List.append_nil]; exact hM2.out
      · skip
        go_wp2_with fail
        refine (texts_days F gN n₀ (mset ms 12) w11 ((HH.out.1).below (hM2.out.bel.mono HH.out.1.size)) (by have := mset_lt ms 12 (by omega); omega) (by rw [mset_bits]; rw [decide_eq_false (show ¬ 32 ≤ 12 by omega)]; simp)).mono ?_
        rintro e w2 ⟨v, rfl, hs2, hb2⟩
        go_wp2_with fail
        refine (writeSet_any w.heap.size w.heap.size _ [109, 111, 110, 116, 104] (monL ms) v w2 (hM2.out.b.below hb2) hs2 (by simp) (by have := HH.out.2.2.m.2.2; omega) (by have := HH.out.2.2.m.2.1; have := (opt_len b0 _ _ HH.out.2.2.d.1); simp only [List.length_append, List.length_cons, List.length_nil]; omega)).mono ?_
        rintro e w3 ⟨rfl, hb3, hk3⟩
        go_wp2
        go_meet
        case rel => exact ⟨hb3, hM2.out.bel.trans ((hb2.mono hM2.out.bel.size).trans hk3)⟩
    case rest =>
      have hM3 : Hid (Mid w ([116, 105, 109, 101] ++ opt b0 (setT [100, 97, 121] (dayL ms)) ++ opt b1 (setT [109, 111, 110, 116, 104] (monL ms))) wc) := hcut
      clear hcut hM2
      go_wp2_with fail
      refine (HA.out.2.2.1 wc).mono ?_
      rintro e w' ⟨rfl, rfl⟩
      generalize wc = w12 at *
      go_upto_if 33 with fail
      go_cut [] (fun wx => Mid w ([116, 105, 109, 101] ++ opt b0 (setT [100, 97, 121] (dayL ms)) ++ opt b1 (setT [109, 111, 110, 116, 104] (monL ms)) ++ opt b2 (setT [121, 101, 97, 114] (yearL p))) wx)
      case first =>
        cases b2
        · go_wp2
          go_meet
          case rel =>
            show Mid w ([116, 105, 109, 101] ++ opt b0 (setT [100, 97, 121] (dayL ms)) ++ opt b1 (setT [109, 111, 110, 116, 104] (monL ms)) ++ []) w12
            rw [List.append_nil]; exact hM3.out
        · skip
          have q2 : w12.cell? ⟨bC, 2, none⟩ = some (.pointer (some ⟨bD, 0, none⟩)) := (HH.out.2.1.below hM3.out.bel).c.cell 2
          have q12 : w12.cell? ⟨bD, 12, none⟩ = some (.string p) := by
            rw [(HH.out.2.1.below hM3.out.bel).d.cell 12, List.getElem?_append_right (by simp [mcells, h12])]
            simp [mcells, h12]
          go_wp2_with fail
          refine (texts_years F gN n₀ p w12 ((HH.out.1).below (hM3.out.bel.mono HH.out.1.size)) hp hy).mono ?_
          rintro e w2 ⟨v, rfl, hs2, hb2⟩
          go_wp2_with fail
          refine (writeSet_any w.heap.size w.heap.size _ [121, 101, 97, 114] (yearL p) v w2 (hM3.out.b.below hb2) hs2 (by simp) (by have := HH.out.2.2.y.2.2; omega) (by have := HH.out.2.2.y.2.1; have := (opt_len b0 _ _ HH.out.2.2.d.1); have := (opt_len b1 _ _ HH.out.2.2.m.1); simp only [List.length_append, List.length_cons, List.length_nil]; omega)).mono ?_
          rintro e w3 ⟨rfl, hb3, hk3⟩
          go_wp2
          go_meet
          case rel => exact ⟨hb3, hM3.out.bel.trans ((hb2.mono hM3.out.bel.size).trans hk3)⟩
      case rest =>
        have hM4 : Hid (Mid w ([116, 105, 109, 101] ++ opt b0 (setT [100, 97, 121] (dayL ms)) ++ opt b1 (setT [109, 111, 110, 116, 104] (monL ms)) ++ opt b2 (setT [121, 101, 97, 114] (yearL p))) wc) := hcut
        clear hcut hM3
        go_wp2_with fail
        refine (HA.out.2.2.2.1 wc).mono ?_
        rintro e w' ⟨rfl, rfl⟩
        generalize wc = w13 at *
        go_upto_if 45 with fail
        go_cut [] (fun wx => Mid w ([116, 105, 109, 101] ++ opt b0 (setT [100, 97, 121] (dayL ms)) ++ opt b1 (setT [109, 111, 110, 116, 104] (monL ms)) ++ opt b2 (setT [121, 101, 97, 114] (yearL p)) ++ opt b3 (setT [] (weekL wd))) wx)
        case first =>
          cases b3
          · go_wp2
            go_meet
            case rel =>
              show Mid w ([116, 105, 109, 101] ++ opt b0 (setT [100, 97, 121] (dayL ms)) ++ opt b1 (setT [109, 111, 110, 116, 104] (monL ms)) ++ opt b2 (setT [121, 101, 97, 114] (yearL p)) ++ []) w13
              rw [List.append_nil]; exact hM4.out
          · skip
            have q3 : w13.cell? ⟨bC, 3, none⟩ = some (.int .u64 wd) := (HH.out.2.1.below hM4.out.bel).c.cell 3
            go_wp2_with fail
            refine (texts_week F gN n₀ wd w13 ((HH.out.1).below (hM4.out.bel.mono HH.out.1.size)) hwd).mono ?_
            rintro e w2 ⟨v, rfl, hs2, hb2⟩
            go_wp2_with fail
            refine (writeSet_any w.heap.size w.heap.size _ [] (weekL wd) v w2 (hM4.out.b.below hb2) hs2 (by simp) (by have := HH.out.2.2.w.2.2; omega) (by have := HH.out.2.2.w.2.1; have := (opt_len b0 _ _ HH.out.2.2.d.1); have := (opt_len b1 _ _ HH.out.2.2.m.1); have := (opt_len b2 _ _ HH.out.2.2.y.1); simp only [List.length_append, List.length_cons, List.length_nil]; omega)).mono ?_
            rintro e w3 ⟨rfl, hb3, hk3⟩
            go_wp2
            go_meet
            case rel => exact ⟨hb3, hM4.out.bel.trans ((hb2.mono hM4.out.bel.size).trans hk3)⟩
        case rest =>
          have hM5 : Hid (Mid w ([116, 105, 109, 101] ++ opt b0 (setT [100, 97, 121] (dayL ms)) ++ opt b1 (setT [109, 111, 110, 116, 104] (monL ms)) ++ opt b2 (setT [121, 101, 97, 114] (yearL p)) ++ opt b3 (setT [] (weekL wd))) wc) := hcut
          clear hcut hM4
          go_wp2_with fail
          refine (HA.out.2.2.2.2 wc).mono ?_
          rintro e w' ⟨rfl, rfl⟩
          generalize wc = w14 at *
          go_upto_if 54 with fail
          go_cut [] (fun wx => Mid w ([116, 105, 109, 101] ++ opt b0 (setT [100, 97, 121] (dayL ms)) ++ opt b1 (setT [109, 111, 110, 116, 104] (monL ms)) ++ opt b2 (setT [121, 101, 97, 114] (yearL p)) ++ opt b3 (setT [] (weekL wd)) ++ opt b4 (setT [] (timeL tms))) wx)
          case first =>
            cases b4
            · go_wp2
              go_meet
              case rel =>
                show Mid w ([116, 105, 109, 101] ++ opt b0 (setT [100, 97, 121] (dayL ms)) ++ opt b1 (setT [109, 111, 110, 116, 104] (monL ms)) ++ opt b2 (setT [121, 101, 97, 114] (yearL p)) ++ opt b3 (setT [] (weekL wd)) ++ []) w14
                rw [List.append_nil]; exact hM5.out
            · obtain ⟨ao, cap, htv, htc⟩ := (HH.out.2.1.below hM5.out.bel).t
              have q4 : w14.cell? ⟨bC, 4, none⟩ = some (.slice ao tms.length cap) := by rw [← htv]; exact (HH.out.2.1.below hM5.out.bel).c.cell 4
              have HT : Hid (0 < tms.length → ∃ g, ao = some ⟨g, 0, none⟩ ∧ g < w14.heap.size ∧ ∀ j, j < tms.length → w14.cell? ⟨g, j * 2, none⟩ = some (.int .i64 (tms.getD j (0, 0)).1) ∧ w14.cell? ⟨g, j * 2 + 1, none⟩ = some (.int .i64 (tms.getD j (0, 0)).2)) := htc
              have HTM : Hid (∀ j, j < tms.length → (tms.getD j (0, 0)).1 ≤ 1440 ∧ (tms.getD j (0, 0)).2 ≤ 1440 ∧ timeL (tms.take (j + 1)) = timeL (tms.take j) ++ [timeT (tms.getD j (0, 0))]) := by
                intro j hj
                have e : tms.getD j (0, 0) = tms[j] := by simp [List.getD, hj]
                rw [e]
                refine ⟨(htm _ (List.getElem_mem hj)).1, (htm _ (List.getElem_mem hj)).2, ?_⟩
                rw [timeL, List.take_succ_eq_append_getElem hj, List.map_append]
                rfl
              have HW : Hid (timeL (tms.take tms.length) = timeL tms) := by show _ = _; rw [List.take_length]
              clear htv htc htm
              obtain ⟨n, hn⟩ : ∃ n, tms.length = n := ⟨_, rfl⟩
              rw [hn] at q4 HT HTM HW ht
              obtain ⟨i0, hj0, hj1, hj2, hj3⟩ := info_parts info9
              go_wp2
              go_loopw [8, 60] (fun r k wr => ∃ i : Nat, k = .int .i64 i ∧ i ≤ n ∧ wr.ownsRow w14.heap.size 9 1 r i ((timeL (tms.take i)).map sv) ∧ Below w14.heap.size w14 wr) (fun _ k _ => n - (intOf k).toNat)
              case atStart => exact ⟨0, rfl, Nat.zero_le _, World.ownsRow_nil _ _ _ _, Below.refl _ _⟩
              case round =>
                obtain ⟨i, rfl, hi, hrow, hbel⟩ := hrel
                by_cases hlt : i < n
                · obtain ⟨g, rfl, hg, hcell⟩ := HT.out (by omega)
                  obtain ⟨hc0, hc1⟩ := hcell i hlt
                  obtain ⟨hm0, hm1, hsn⟩ := HTM.out i hlt
                  have r0 : wr.cell? ⟨g, i * 2, none⟩ = some (.int .i64 (tms.getD i (0, 0)).1) := (hbel.cell (p := ⟨g, i * 2, none⟩) hg).trans hc0
                  have r1 : wr.cell? ⟨g, i * 2 + 1, none⟩ = some (.int .i64 (tms.getD i (0, 0)).2) := (hbel.cell (p := ⟨g, i * 2 + 1, none⟩) hg).trans hc1
                  generalize tms.getD i (0, 0) = x at *
                  obtain ⟨xs, xe⟩ := x
                  dsimp only at r0 r1 hm0 hm1
                  have HX : Hid (timeL (tms.take (i + 1)) = timeL (tms.take i) ++ [timeT (xs, xe)] ∧ wr.ownsRow w14.heap.size 9 1 u8 i ((timeL (tms.take i)).map sv) ∧ Below w14.heap.size w14 wr) := ⟨hsn, hrow, hbel⟩
                  clear hcell hc0 hc1 hsn hrow hbel
                  go_wp2_with fail
                  have hblk := Blk.new wr [.int .i64 xs, .int .i64 xe] 47
                  have hrowA : RowAt w14.heap.size u8 i ((timeL (tms.take i)).map sv) (wr.alloc (.cells #[.int .i64 xs, .int .i64 xe] 47)) := ⟨HX.out.2.1.alloc _, Nat.le_trans HX.out.2.2.size (by simp)⟩
                  have hSA : Sr w14.heap.size wr.heap.size xs xe w14 (wr.alloc (.cells #[.int .i64 xs, .int .i64 xe] 47)) := ⟨hblk.cell 0, hblk.cell 1, hblk, HX.out.2.2.alloc HX.out.2.2.size _⟩
                  clear hblk r0 r1 q4
                  generalize wr.alloc (.cells #[.int .i64 xs, .int .i64 xe] 47) = wA at hrowA hSA ⊢
                  generalize wr.heap.size = Bx at hSA ⊢
                  have hrowD : RowAt w14.heap.size u8 i ((timeL (tms.take i)).map sv) wA.drew := hrowA
                  have hSD : Sr w14.heap.size Bx xs xe w14 wA.drew := ⟨hSA.1, hSA.2.1, hSA.2.2.1, hSA.2.2.2.drew⟩
                  have hlx : (clock xs).length = 4 := by simp [clock, two]
                  have hly : (clock xe).length = 4 := by simp [clock, two]
                  clear hrowA hSA
                  go_region_held3 (fun w' => w'.cell? ⟨Bx, 0, none⟩ = some (.int .i64 xs) ∧ w'.cell? ⟨Bx, 1, none⟩ = some (.int .i64 xe) ∧ Blk w' Bx [.int .i64 xs, .int .i64 xe] 47 ∧ Below w14.heap.size w14 w')
                    (first | exact hSD | exact keep_call (by assumption) (Nat.le_refl _) (by assumption) | exact keep_app (by assumption) (hrowN.1.alloc _) hgrow (Nat.le_refl _) | exact keep_new (by assumption) (Nat.le_refl _) _)
                    (first
                      | (go_at_call 29; refine (clockText_s _ (by assumption) _).mono ?_; rintro e w' ⟨rfl, hb⟩; have hrowN := RowAt.below (by assumption) hb)
                      | (refine step_append_lies _ rfl _ _ 65 rfl w14.heap.size 9 i0 (.string ByteArray.empty) 1 16 Tryf.underlying65 hj0 hj1 hj2 hj3 rfl (by decide) u8 i _ rfl (hrowN.1.alloc _) ⟨_, 0, none⟩ 1 1 _ rfl rfl (cell_one_new _ _ _) (by simp [Value.oneCell']) (by decide) (by unfold maxLen; omega) (by omega) (Nat.le_trans hrowN.2 (by simp)) _ rfl ?_; intro g' cap' w4 hown' hgrow hat hlt'))
                  have hbF : Below w14.heap.size w14 w4 := by go_split_ands; assumption
                  have HF : Hid (w4.ownsRow w14.heap.size 9 1 (.slice (some ⟨g', 0, none⟩) (i + 1) cap') (i + 1) ((timeL (tms.take i)).map sv ++ [.string (⟨(clock xs).toArray⟩ ++ ⟨#[45]⟩ ++ ⟨(clock xe).toArray⟩)]) ∧ Below w14.heap.size w14 w4) := ⟨hown', hbF⟩
                  have HV : Hid (sv (timeT (xs, xe)) = .string (⟨(clock xs).toArray⟩ ++ ⟨#[45]⟩ ++ ⟨(clock xe).toArray⟩)) := by
                    show sv _ = _
                    rw [show (⟨#[45]⟩ : ByteArray) = ⟨[45].toArray⟩ from rfl, sv_cat, sv_cat, List.append_assoc]; rfl
                  clear hown' hbF hgrow hat hlt'
                  go_wp2
                  go_roundw
                  case rel =>
                    refine ⟨i + 1, by go_num, by omega, ?_, HF.out.2⟩
                    rw [HX.out.1, List.map_append, List.map_singleton, HV.out]
                    exact HF.out.1
                  case measure => simp [intOf] <;> omega
                · obtain rfl : i = n := by omega
                  go_wp2_with fail
                  refine (writeSet_any w.heap.size w.heap.size _ [] (timeL tms) u8 wr (hM5.out.b.below hbel) ⟨_, by rw [← HW.out, show (timeL (tms.take i)).length = i by simp [timeL]; omega]; exact hrow⟩ (by simp) (by have := HH.out.2.2.t.2.2; omega) (by have := HH.out.2.2.t.2.1; have := (opt_len b0 _ _ HH.out.2.2.d.1); have := (opt_len b1 _ _ HH.out.2.2.m.1); have := (opt_len b2 _ _ HH.out.2.2.y.1); have := (opt_len b3 _ _ HH.out.2.2.w.1); simp only [List.length_append, List.length_cons, List.length_nil]; omega)).mono ?_
                  rintro e w3 ⟨rfl, hb3, hk3⟩
                  go_wp2
                  go_meet
                  case rel => exact ⟨hb3, hM5.out.bel.trans ((hbel.mono hM5.out.bel.size).trans hk3)⟩
          case rest =>
            have hM6 : Hid (Mid w ([116, 105, 109, 101] ++ opt b0 (setT [100, 97, 121] (dayL ms)) ++ opt b1 (setT [109, 111, 110, 116, 104] (monL ms)) ++ opt b2 (setT [121, 101, 97, 114] (yearL p)) ++ opt b3 (setT [] (weekL wd)) ++ opt b4 (setT [] (timeL tms))) wc) := hcut
            clear hcut hM5
            go_wp2_with fail
            refine (wb_any _ _ _ 59 wc hM6.out.b (by have := (opt_len b0 _ _ HH.out.2.2.d.1); have := (opt_len b1 _ _ HH.out.2.2.m.1); have := (opt_len b2 _ _ HH.out.2.2.y.1); have := (opt_len b3 _ _ HH.out.2.2.w.1); have := (opt_len b4 _ _ HH.out.2.2.t.1); simp only [List.length_append, List.length_cons, List.length_nil]; omega)).mono ?_
            rintro e w8 ⟨rfl, hb8, hk8⟩
            go_wp2_with fail
            refine (str_any _ _ _ w8 hb8).mono ?_
            rintro e w9 ⟨rfl, hb9⟩
            go_wp2
            go_ret
            refine ⟨?_, (hM6.out.bel.trans hk8.1).trans hb9⟩
            rw [itemT, HB.out.1, HB.out.2.1, HB.out.2.2.1, HB.out.2.2.2.1, HB.out.2.2.2.2]
            simp [sv]
end Go.Proofs.Qxb6615962aFmt
