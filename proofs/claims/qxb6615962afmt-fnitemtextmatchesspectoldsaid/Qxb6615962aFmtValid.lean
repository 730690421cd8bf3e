import Derived.Test.Qxb6615962aFmtSmall
namespace Go.Proofs.Qxb6615962aFmt
open Go.RowKit Go.Shelf
set_option linter.unusedSimpArgs false

theorem below_drewN (w : World) (q : Nat) : Below w.heap.size w (w.drewN q) := ⟨rfl, rfl, rfl, Nat.le_refl _, fun _ _ => rfl⟩

set_option maxRecDepth 100000 in
set_option maxHeartbeats 4000000 in
theorem valid_any (p : ByteArray) (hp : p.size ≤ 524288) (w : World) :
    Calls Tryf.prog 7 #[.string p] w fun e w' => Tells (YearsOk p (p.size / 4)) e ∧ Below w.heap.size w w' := by
  by_cases h4 : p.size % 4 = 0
  · have h4i : ((p.size : Int) % 4 != 0) = false := by rw [bne_eq_false_iff_eq]; omega
    go_enter Tryf.func7, Tryf.ntmps7
    go_wp2
    go_loopw [3, 4] (fun v j wr => ∃ (k : Nat) (pv : Int), v = .int .i64 pv ∧ -2 ≤ pv ∧ pv ≤ 9999 ∧ j = .int .i64 (4 * k : Nat) ∧ k ≤ p.size / 4 ∧ YearsOk p k ∧ Below w.heap.size w wr) (fun _ j _ => p.size + 4 - (intOf j).toNat)
    case atStart => exact ⟨0, -2, rfl, by omega, by omega, rfl, Nat.zero_le _, fun i hi => absurd hi (by omega), Below.refl _ _⟩
    case round =>
      obtain ⟨k, pv, rfl, hp1, hp2, rfl, hk, hok, hbel⟩ := hrel
      by_cases hlt : k < p.size / 4
      · have HG : Hid (YearsOk p k ∧ Below w.heap.size w wr ∧ k < p.size / 4) := ⟨hok, hbel, hlt⟩
        clear hok hbel
        have hk4 : 4 * (k : Int) + 4 ≤ (p.size : Int) := by omega
        have hw1 : IntKind.i64.wrap (4 * (k : Int) + 1) = 4 * (k : Int) + 1 := IntWalk.i64_in _ ⟨by omega, by omega⟩
        have hw2 : IntKind.i64.wrap (4 * (k : Int) + 2) = 4 * (k : Int) + 2 := IntWalk.i64_in _ ⟨by omega, by omega⟩
        have hw3 : IntKind.i64.wrap (4 * (k : Int) + 3) = 4 * (k : Int) + 3 := IntWalk.i64_in _ ⟨by omega, by omega⟩
        have x0 : ∀ w, (Instr.index 9 (.string p) (.int .i64 (4 * (k : Int)))).run Tryf.prog w = .ok (.int .u8 (byt p (4 * k))) w := index_str p _ (4 * k) (by omega) (by omega)
        have x1 : ∀ w, (Instr.index 9 (.string p) (.int .i64 (4 * (k : Int) + 1))).run Tryf.prog w = .ok (.int .u8 (byt p (4 * k + 1))) w := index_str p _ (4 * k + 1) (by omega) (by omega)
        have x2 : ∀ w, (Instr.index 9 (.string p) (.int .i64 (4 * (k : Int) + 2))).run Tryf.prog w = .ok (.int .u8 (byt p (4 * k + 2))) w := index_str p _ (4 * k + 2) (by omega) (by omega)
        have x3 : ∀ w, (Instr.index 9 (.string p) (.int .i64 (4 * (k : Int) + 3))).run Tryf.prog w = .ok (.int .u8 (byt p (4 * k + 3))) w := index_str p _ (4 * k + 3) (by omega) (by omega)
        go_wp2_with fail
        go_quiet (fail)
        have HB1 : Hid (Below w.heap.size w (wr.drewN nq)) := HG.out.2.1.trans ((below_drewN wr nq).mono HG.out.2.1.size)
        generalize wr.drewN nq = wq1 at HB1 ⊢
        rw [or_form _ _ (byt_lt _ _) (byt_lt _ _), show byt p (4 * k) * 256 + byt p (4 * k + 1) = yr p (4 * k) from rfl]
        go_wp2_with fail
        go_quiet (fail)
        have HB2 : Hid (Below w.heap.size w (wq1.drewN nq)) := HB1.out.trans ((below_drewN wq1 nq).mono HB1.out.size)
        generalize wq1.drewN nq = wq2 at HB2 ⊢
        clear HB1
        rw [or_form _ _ (byt_lt _ _) (byt_lt _ _), show byt p (4 * k + 2) * 256 + byt p (4 * k + 3) = yr p (4 * k + 2) from rfl]
        clear x0 x1 x2 x3
        have hab : yr p (4 * k) < 65536 ∧ yr p (4 * k + 2) < 65536 := by
          have b1 := byt_lt p (4 * k); have b2 := byt_lt p (4 * k + 1); have b3 := byt_lt p (4 * k + 2); have b4 := byt_lt p (4 * k + 2 + 1)
          unfold yr; omega
        obtain ⟨ya, ha⟩ : ∃ a, yr p (4 * k) = a := ⟨_, rfl⟩
        obtain ⟨yb, hb⟩ : ∃ b, yr p (4 * k + 2) = b := ⟨_, rfl⟩
        obtain ⟨jj, hjj⟩ : ∃ jj, 4 * k = jj := ⟨_, rfl⟩
        have HV : Hid (yr p (4 * k) = ya ∧ yr p (4 * k + 2) = yb ∧ 4 * k = jj) := ⟨ha, hb, hjj⟩
        rw [ha, hb] at hab ⊢
        rw [hjj]
        obtain ⟨hA, hB⟩ := hab
        have hjb : jj ≤ 524288 := by omega
        clear ha hb hjj hk4 hw1 hw2 hw3 hk hlt
        by_cases g1 : (ya : Int) ≤ pv + 1
        · go_wp2
          go_ret
          exact ⟨tells_no, HB2.out⟩
        · by_cases g2 : yb < ya
          · have g2i : (yb : Int) < (ya : Int) := by omega
            have g1b : decide ((ya : Int) ≤ pv + 1) = false := decide_eq_false g1
            go_wp2
            go_ret
            exact ⟨tells_no, HB2.out⟩
          · have g2b : decide ((yb : Int) < (ya : Int)) = false := decide_eq_false (by omega)
            have g2n : decide (yb < ya) = false := decide_eq_false g2
            have g1b : decide ((ya : Int) ≤ pv + 1) = false := decide_eq_false g1
            by_cases g3 : 9999 < yb
            · have g3i : (9999 : Int) < (yb : Int) := by omega
              go_wp2
              go_ret
              exact ⟨tells_no, HB2.out⟩
            · have g3b : decide ((9999 : Int) < (yb : Int)) = false := decide_eq_false (by omega)
              have g3n : decide (9999 < yb) = false := decide_eq_false g3
              go_wp2
              go_roundw
              case rel =>
                have hv := HV.out
                refine ⟨k + 1, yb, rfl, by omega, by omega, by simp only [Value.int.injEq, true_and]; omega, by have := HG.out.2.2; omega, ?_, HB2.out⟩
                intro i hi
                rcases Nat.lt_or_ge i k with h | h
                · exact HG.out.1 i h
                · obtain rfl : i = k := by omega
                  rw [hv.1, hv.2.1]; omega
              case measure => have hv := HV.out; have := HG.out.2.2; simp [intOf] <;> omega
      · obtain rfl : k = p.size / 4 := by omega
        have hcd : ¬ (4 * ((p.size / 4 : Nat) : Int) + 4 ≤ (p.size : Int)) := by omega
        have HG : Hid (YearsOk p (p.size / 4) ∧ Below w.heap.size w wr) := ⟨hok, hbel⟩
        clear hok hbel
        go_wp2
        go_ret
        exact ⟨tells_yes HG.out.1, HG.out.2⟩
  · have h4i : ((p.size : Int) % 4 != 0) = true := by rw [bne_iff_ne]; omega
    go_enter Tryf.func7, Tryf.ntmps7
    go_wp2
    go_ret
    exact ⟨tells_no, Below.refl _ _⟩
end Go.Proofs.Qxb6615962aFmt
