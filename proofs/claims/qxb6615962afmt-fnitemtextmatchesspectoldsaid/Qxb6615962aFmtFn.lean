import Derived.Test.Qxb6615962aFmtTop
namespace Go.Proofs.Qxb6615962aFmt
open Go.RowKit Go.Shelf Go.Extern.Stop Go.Stop Go.Extern
set_option linter.unusedSimpArgs false

/-- What the law's body knows between its steps. -/
structure Fs (w : World) (ms : List Nat) (tmsI : List (Int × Int)) (tv : Value) (W : World) : Prop where
  box : Blk W w.heap.size (mcells ms) 23
  t : TimesI tv tmsI W
  bel : Below w.heap.size w W

theorem Fs.below {w : World} {ms : List Nat} {tmsI : List (Int × Int)} {tv : Value} {W W' : World} (h : Fs w ms tmsI tv W) (hb : Below W.heap.size W W') : Fs w ms tmsI tv W' :=
  ⟨h.box.below hb h.box.lt, h.t.below hb, h.bel.trans (hb.mono h.bel.size)⟩

theorem info23 (ms : List Nat) (h12 : ms.length = 12) : (Tryf.prog.info? 23).map (·.size) = some (mcells ms).length := by
  rw [show (mcells ms).length = 12 by simp [mcells, h12]]; kernel_rfl

theorem dlast_lt (ms : List Nat) (h : ∀ m ∈ ms, m < 18446744073709551616) (h12 : ms.length = 12) : ∀ k, k ≤ 12 → dlast ms k < 18446744073709551616
  | 0, _ => by simp [dlast]
  | k + 1, hk => by
    rw [dlast]
    split
    · exact dlast_lt ms h h12 k (by omega)
    · have hl : k < ms.length := by omega
      unfold nat0
      rw [List.getD, List.getElem?_eq_getElem hl]
      exact h _ (List.getElem_mem hl)

/-- What the two texts are written from. -/
structure Gx (F : Interp) (gN n₀ : Nat) (w : World) (bC bD : Nat) (ms : List Nat) (p : ByteArray) (wd : Nat) (tv' : Value) (tms : List (Nat × Nat)) (tv : Value) (W : World) : Prop where
  box : Blk W w.heap.size (mcells ms) 23
  cl : Cl bC bD ms p wd tv' tms W
  t : Times tv tms W
  env : Env F gN n₀ W
  bel : Below w.heap.size w W

theorem Gx.below {F : Interp} {gN n₀ : Nat} {w : World} {bC bD : Nat} {ms : List Nat} {p : ByteArray} {wd : Nat} {tv' : Value} {tms : List (Nat × Nat)} {tv : Value} {W W' : World} (h : Gx F gN n₀ w bC bD ms p wd tv' tms tv W) (hb : Below W.heap.size W W') : Gx F gN n₀ w bC bD ms p wd tv' tms tv W' :=
  ⟨h.box.below hb h.box.lt, h.cl.below hb, h.t.below hb, h.env.below (hb.mono h.env.size), h.bel.trans (hb.mono h.bel.size)⟩

theorem keep_gx {F : Interp} {gN n₀ : Nat} {w : World} {bC bD : Nat} {ms : List Nat} {p : ByteArray} {wd : Nat} {tv' : Value} {tms : List (Nat × Nat)} {tv : Value} {W W' : World} (h : W.rangeAt w.heap.size 0 (mcells ms) ∧ Gx F gN n₀ w bC bD ms p wd tv' tms tv W) (hb : Below W.heap.size W W') : W'.rangeAt w.heap.size 0 (mcells ms) ∧ Gx F gN n₀ w bC bD ms p wd tv' tms tv W' :=
  ⟨(h.2.below hb).box.range, h.2.below hb⟩

set_option maxRecDepth 100000 in
set_option maxHeartbeats 8000000 in
theorem fn_any (F : Interp) (gN n₀ : Nat) (ms : List Nat) (p : ByteArray) (wd ps : Nat) (ao : Option Addr) (cap : Nat) (tmsI : List (Int × Int)) (w : World) (hE : Env F gN n₀ w) (h12 : ms.length = 12) (hms : ∀ m ∈ ms, m < 18446744073709551616) (hwd : wd < 18446744073709551616) (hps : ps < 18446744073709551616)
    (hnone : ao = none → tmsI.length = 0 ∧ cap = 0) (hsrc : ∀ x, ao = some x → x.block < w.heap.size ∧ ∀ j v, (icells tmsI)[j]? = some v → w.cell? (x.add j) = some v) :
    Calls Tryf.prog 3 #[.agg (mcells ms).toArray, .string p, .int .u64 wd, .slice ao tmsI.length cap, .int .u64 ps] w fun e w' => e = .returned (.bool true) ∧ Below w.heap.size w w' := by
  have hsz : (mcells ms).toArray.size = 12 := by simp [mcells, h12]
  have hb0 : Below w.heap.size w (w.alloc (.cells (mcells ms).toArray 23)) := (Below.refl _ _).alloc (Nat.le_refl _) _
  have HI : Hid ((Tryf.prog.info? 23).map (·.size) = some (mcells ms).length) := info23 ms h12
  have HS0 : Hid (Blk (w.alloc (.cells (mcells ms).toArray 23)) w.heap.size (mcells ms) 23 ∧ Below w.heap.size w (w.alloc (.cells (mcells ms).toArray 23))) := ⟨Blk.new w _ 23, hb0⟩
  have HSR : Hid (∀ x, ao = some x → x.block < w.heap.size ∧ ∀ j v, (icells tmsI)[j]? = some v → w.cell? (x.add j) = some v) := hsrc
  have HE : Hid (Env F gN n₀ w) := hE
  clear hsrc hb0 hE
  go_enter Tryf.func3, Tryf.ntmps3
  go_wp2_with (refine wpList_load_mid rfl 23 (.tmp 5) rfl _ _ rfl _ _ HS0.out.1.range Tryf.underlying23 rfl HI.out ?_)
  generalize w.alloc (.cells (mcells ms).toArray 23) = w1 at HS0 ⊢
  refine (bytes_any ms p wd ao tmsI.length cap ps w1).mono ?_
  rintro e w2 ⟨⟨r, rfl, _⟩, hb2⟩
  have HS2 : Hid (Blk w2 w.heap.size (mcells ms) 23 ∧ Below w.heap.size w w2) := ⟨HS0.out.1.below hb2 HS0.out.1.lt, HS0.out.2.trans (hb2.mono HS0.out.2.size)⟩
  clear HS0 hb2
  cases r
  · go_wp2
    go_ret
    exact ⟨rfl, HS2.out.2⟩
  by_cases hp : 524288 < p.size
  · go_wp2
    go_ret
    exact ⟨rfl, HS2.out.2⟩
  obtain ⟨n, hn⟩ : ∃ n, tmsI.length = n := ⟨_, rfl⟩
  have HN : Hid (tmsI.length = n) := hn
  rw [hn] at hnone ⊢
  clear hn
  by_cases ht : 32768 < n
  · go_wp2
    go_ret
    exact ⟨rfl, HS2.out.2⟩
  have hneq : ∀ w', (binOp .neq 24 (.slice ao n cap) (.slice none 0 0)).run Tryf.prog w' = .ok (.bool ao.isSome) w' := by
    intro w'
    cases ao <;> kernel_rfl
  go_upto_if 30 with fail
  go_cut [3] (fun tv wx => Fs w ms tmsI tv wx)
  case first =>
    cases ao with
    | none =>
      obtain ⟨rfl, rfl⟩ := hnone rfl
      go_wp2
      go_meet
      case rel => exact ⟨HS2.out.1, ⟨none, 0, by rw [HN.out], fun h => absurd h (by have := HN.out; omega)⟩, HS2.out.2⟩
    | some x =>
      obtain ⟨hxl, hxc⟩ := HSR.out x rfl
      obtain ⟨i0, hj0, hj1, hj2, hj3⟩ := info_parts info30
      have hbs := HS2.out.2.size
      go_wp2_with (first | (at_make; refine wpList_make_full _ rfl (.tmp 32) (.tmp 32) 24 rfl w2.heap.size 30 i0 (.agg #[.int .i64 0, .int .i64 0]) 2 Tryf.underlying24 hj0 hj1 hj2 .i64 .i64 n n n rfl rfl rfl rfl ?c1 ?c2 (Nat.le_refl _) ?_))
      case c1 => rw [hj3]; omega
      case c2 => unfold maxLen; omega
      intro w3 hown hgrow
      obtain ⟨cur, hcur, hsz3⟩ : ∃ cur : Array Value, w3.heap[w2.heap.size]? = some (.cells cur 30 (0, 0)) ∧ cur.size = n * 2 := by
        rcases hown.2 with ⟨h, _⟩ | ⟨g, cap', cur, h, _, hh, _, _, hs, _⟩
        · cases h
        · simp only [Value.slice.injEq, Option.some.injEq, Addr.mk.injEq, and_true] at h
          obtain ⟨rfl, _, rfl⟩ := h
          exact ⟨cur, hh, hs⟩
      have hb3 : Below w2.heap.size w2 w3 := (Below.refl _ _).grown hgrow (Nat.le_refl _) (by simp)
      have HC : Hid (∀ j v, (icells tmsI)[j]? = some v → w3.cell? (x.add j) = some v) := by
        intro j v hj
        have h1 := hxc j v hj
        have hx2 : (x.add j).block = x.block := by unfold Addr.add; split <;> rfl
        have hb : Below w.heap.size w w3 := HS2.out.2.trans (hb3.mono hbs)
        rw [hb.cell (by rw [hx2]; exact hxl)]
        exact h1
      have HL : Hid ((icells tmsI).length = n * 2) := by show _ = _; rw [icells_len, HN.out]
      have HW : Hid (w3.heap[w2.heap.size]? = some (.cells cur 30 (0, 0)) ∧ cur.size = n * 2 ∧ Below w2.heap.size w2 w3) := ⟨hcur, hsz3, hb3⟩
      clear hown hgrow hcur hsz3 hb3 hxc
      go_wp2_with (first | (refine wpList_copy2 rfl (.tmp 34) (.tmp 35) rfl w2.heap.size n cap x rfl rfl cur (icells tmsI) HW.out.1 HW.out.2.1 HL.out HC.out (icells_one tmsI) ?_))
      intro w4 HP
      go_wp2
      go_meet
      case rel =>
        have hp4 := HP.out
        obtain ⟨hh, _, hb3⟩ := HW.out
        have hb24 : Below w2.heap.size w2 w4 := hb3.trans ⟨hp4.os, hp4.tape, hp4.output, Nat.le_of_eq hp4.size.symm, fun b hb => hp4.other b (by omega)⟩
        refine ⟨HS2.out.1.below hb24 HS2.out.1.lt, ⟨some ⟨w2.heap.size, 0, none⟩, n, by rw [HN.out], fun _ => ⟨w2.heap.size, rfl, hp4.blk.lt, fun j hj => ?_⟩⟩, HS2.out.2.trans (hb24.mono hbs)⟩
        rw [hp4.blk.cell (j * 2), hp4.blk.cell (j * 2 + 1)]
        exact icells_at tmsI j hj
  case rest =>
    have hdl : dlast ms 12 < 18446744073709551616 := dlast_lt ms hms h12 12 (by omega)
    obtain ⟨tao, tcap, htv, htc⟩ := hcut.t
    have HF : Hid (Fs w ms tmsI u3 wc) := hcut
    clear hcut hnone HS2 hneq
    rw [HN.out] at htv
    subst htv
    go_wp2_with (refine wpList_load_mid rfl 23 (.tmp 5) rfl _ _ rfl _ _ HF.out.box.range Tryf.underlying23 rfl HI.out ?_)
    refine (common_any ms wc h12).mono ?_
    rintro e w3 ⟨(rfl | rfl), hb3⟩
    · go_wp2
      go_ret
      exact ⟨rfl, (HF.out.below hb3).bel⟩
    have HF3 : Hid (Fs w ms tmsI (.slice tao n tcap) w3) := HF.out.below hb3
    clear HF hb3 htc
    obtain ⟨d, hd⟩ : ∃ d, dlast ms 12 = d := ⟨_, rfl⟩
    rw [hd] at hdl
    have HD : Hid (dlast ms 12 = d) := hd
    have f32 : (bits BinOp.and IntKind.u64 ((d : Int) / 4294967296) 1 == 1) = d.testBit 32 := bit_form d 32 hdl
    rw [hd]
    clear hd
    cases h32 : d.testBit 32
    · rw [h32] at f32
      have H32 : Hid (d.testBit 32 = false) := h32
      clear h32
      go_wp2_with fail
      refine (valid_any p (by omega) w3).mono ?_
      rintro e w4 ⟨⟨r, rfl, hv⟩, hb4⟩
      have HF4 : Hid (Fs w ms tmsI (.slice tao n tcap) w4) := HF3.out.below hb4
      clear HF3 hb4
      cases r
      · go_wp2
        go_ret
        exact ⟨rfl, HF4.out.bel⟩
      have HY : Hid (YearsOk p (p.size / 4)) := hv rfl
      clear hv
      by_cases hw7 : wd < 128
      · have hw7i : ((wd : Int) / 128 != 0) = false := by rw [bne_eq_false_iff_eq]; omega
        go_wp2_with fail
        go_loopw [14] (fun j wr => ∃ i : Nat, j = .int .i64 i ∧ i ≤ n ∧ (∀ k, k < i → 0 ≤ (tmsI.getD k (0, 0)).1 ∧ (tmsI.getD k (0, 0)).1 < (tmsI.getD k (0, 0)).2 ∧ (tmsI.getD k (0, 0)).2 ≤ 1440) ∧ Fs w ms tmsI (.slice tao n tcap) wr) (fun j _ => n - (intOf j).toNat)
        case atStart => exact ⟨0, rfl, Nat.zero_le _, fun k hk => absurd hk (by omega), HF4.out⟩
        case round =>
          clear HF4
          obtain ⟨i, rfl, hi, hval, hF⟩ := hrel
          by_cases hlt : i < n
          · obtain ⟨tao', tcap', htv, htc⟩ := hF.t
            simp only [Value.slice.injEq] at htv
            obtain ⟨rfl, hnn, rfl⟩ := htv
            clear hnn
            obtain ⟨g, rfl, hg, hcell⟩ := htc (by have := HN.out; omega)
            have hc2 := hcell i (by have := HN.out; omega)
            clear hcell
            obtain ⟨x, hx⟩ : ∃ x, tmsI.getD i (0, 0) = x := ⟨_, rfl⟩
            rw [hx] at hc2
            obtain ⟨xs, xe⟩ := x
            dsimp only at hc2
            obtain ⟨q0, q1⟩ := hc2
            have HG : Hid ((∀ k, k < i → 0 ≤ (tmsI.getD k (0, 0)).1 ∧ (tmsI.getD k (0, 0)).1 < (tmsI.getD k (0, 0)).2 ∧ (tmsI.getD k (0, 0)).2 ≤ 1440) ∧ Fs w ms tmsI (.slice (some ⟨g, 0, none⟩) n tcap) wr ∧ tmsI.getD i (0, 0) = (xs, xe)) := ⟨hval, hF, hx⟩
            have hli : (i : Int) < (n : Int) := by omega
            clear hval hF hx htc
            by_cases g1 : xs < 0
            · go_wp2_with fail
              go_quiet (fail)
              go_wp2
              go_ret
              exact ⟨rfl, HG.out.2.1.bel.trans ((below_drewN wr nq).mono HG.out.2.1.bel.size)⟩
            · have g1b : decide (xs < 0) = false := decide_eq_false g1
              by_cases g2 : xe ≤ xs
              · go_wp2_with fail
                go_quiet (fail)
                go_wp2
                go_ret
                exact ⟨rfl, HG.out.2.1.bel.trans ((below_drewN wr nq).mono HG.out.2.1.bel.size)⟩
              · have g2b : decide (xe ≤ xs) = false := decide_eq_false g2
                by_cases g3 : 1440 < xe
                · go_wp2_with fail
                  go_quiet (fail)
                  go_wp2
                  go_ret
                  exact ⟨rfl, HG.out.2.1.bel.trans ((below_drewN wr nq).mono HG.out.2.1.bel.size)⟩
                · have g3b : decide (1440 < xe) = false := decide_eq_false g3
                  go_wp2_with fail
                  go_quiet (fail)
                  go_wp2
                  go_roundw
                  case rel =>
                    refine ⟨i + 1, by go_num, by omega, fun k hk => ?_, HG.out.2.1.below (below_drewN wr nq)⟩
                    rcases Nat.lt_or_ge k i with h | h
                    · exact HG.out.1 k h
                    · obtain rfl : k = i := by omega
                      rw [HG.out.2.2]; dsimp only; omega
                  case measure => simp [intOf] <;> omega
          · obtain rfl : i = n := by omega
            have hN := HN.out
            have hlen : (tmsI.map fun x => (x.1.toNat, x.2.toNat)).length = i := by rw [List.length_map, hN]
            have hTN : Times (.slice tao i tcap) (tmsI.map fun x => (x.1.toNat, x.2.toNat)) wr := hF.t.nat (fun j hj => by have := hval j (by omega); omega)
            have htm : ∀ x ∈ tmsI.map (fun x => (x.1.toNat, x.2.toNat)), x.1 ≤ 1440 ∧ x.2 ≤ 1440 := by
              intro x hx
              obtain ⟨y, hy, rfl⟩ := List.mem_map.1 hx
              obtain ⟨j, hj, rfl⟩ := List.mem_iff_getElem.1 hy
              have h1 := hval j (by omega)
              rw [show tmsI.getD j (0, 0) = tmsI[j] by simp [List.getD, hj]] at h1
              dsimp only
              omega
            obtain ⟨tms, htms⟩ : ∃ tms, tmsI.map (fun x => (x.1.toNat, x.2.toNat)) = tms := ⟨_, rfl⟩
            rw [htms] at hlen hTN htm
            have HF : Hid (Fs w ms tmsI (.slice tao i tcap) wr ∧ Times (.slice tao i tcap) tms wr ∧ tms.length = i ∧ ∀ x ∈ tms, x.1 ≤ 1440 ∧ x.2 ≤ 1440) := ⟨hF, hTN, hlen, htm⟩
            clear hF hTN hlen htm hval htms hN
            go_wp2_with (refine wpList_load_mid rfl 23 (.tmp 5) rfl _ _ rfl _ _ HF.out.1.box.range Tryf.underlying23 rfl HI.out ?_)
            refine (new_any ms p wd (.slice tao i tcap) tms wr HF.out.2.1 h12 (by have := HF.out.2.2.1; omega)).mono ?_
            rintro e w5 ⟨bC, bD, tv', rfl, hCl, hb5⟩
            have hF5 := HF.out.1.below hb5
            have hIt := fun w' (hC' : Cl bC bD ms p wd tv' tms w') (hE' : Env F gN n₀ w') => zz_item bC ps _ w' (item_any F gN n₀ bC bD ms p wd tv' tms ps w' hE' hC' h12 hps (by rw [HD.out]; exact hdl) (by rw [HD.out]; exact H32.out) (by omega) HY.out hw7 (by have := HF.out.2.2.1; omega) HF.out.2.2.2)
            have hMo := fun w' (hT' : Times (.slice tao i tcap) tms w') => model_any ms d p wd (.slice tao i tcap) tms ps w' hT' h12 hps hdl (by omega) HY.out hwd (by have := HF.out.2.2.1; omega) HF.out.2.2.2
            rw [← HD.out] at hMo
            have hsame := texts_same ms p wd tms ps (by rw [HD.out]; exact H32.out) hw7
            rw [hsame, HD.out] at hIt
            rw [HD.out] at hMo
            obtain ⟨X, hX⟩ : ∃ X, modelT ms d p wd tms ps = X := ⟨_, rfl⟩
            rw [hX] at hIt hMo
            unfold sv at hMo
            have HIt : Hid (∀ w' (hC' : Cl bC bD ms p wd tv' tms w') (hE' : Env F gN n₀ w'), Calls Tryf.prog 9 _ w' _) := hIt
            have HMo : Hid (∀ w' (hT' : Times (.slice tao i tcap) tms w'), Calls Tryf.prog 10 _ w' _) := hMo
            have HG5 : Hid (Gx F gN n₀ w bC bD ms p wd tv' tms (.slice tao i tcap) w5) := ⟨hF5.box, hCl, HF.out.2.1.below hb5, HE.out.below (hF5.bel.mono HE.out.size), hF5.bel⟩
            clear hIt hMo hsame hX hCl hb5 hF5 HF
            have hS5 : w5.drew.rangeAt w.heap.size 0 (mcells ms) ∧ Gx F gN n₀ w bC bD ms p wd tv' tms (.slice tao i tcap) w5.drew := by
              have h := HG5.out.below ((Below.refl w5.heap.size w5).drew)
              exact ⟨h.box.range, h⟩
            clear HG5
            go_wp2_with fail
            have hu23 := Tryf.underlying23
            have hi23 := HI.out
            go_region_held3 (fun w' => w'.rangeAt w.heap.size 0 (mcells ms) ∧ Gx F gN n₀ w bC bD ms p wd tv' tms (.slice tao i tcap) w')
              (first | exact hS5 | exact keep_gx (by assumption) (by assumption))
              (first
                | (go_at_call 9; refine (HIt.out _ (Gx.cl (by go_split_ands; assumption)) (Gx.env (by go_split_ands; assumption))).mono ?_; rintro e w' ⟨rfl, hb⟩)
                | (go_at_call 10; refine (HMo.out _ (Gx.t (by go_split_ands; assumption))).mono ?_; rintro e w' ⟨rfl, hb⟩))
            go_wp2
            go_ret
            exact ⟨rfl, Gx.bel (by go_split_ands; assumption)⟩
      · have hw7i : ((wd : Int) / 128 != 0) = true := by rw [bne_iff_ne]; omega
        go_wp2
        go_ret
        exact ⟨rfl, HF4.out.bel⟩
    · rw [h32] at f32
      clear h32
      go_wp2
      go_ret
      exact ⟨rfl, HF3.out.bel⟩
end Go.Proofs.Qxb6615962aFmt
