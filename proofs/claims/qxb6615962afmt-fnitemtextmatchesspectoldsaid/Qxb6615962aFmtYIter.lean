import Derived.Test.Qxb6615962aFmtYears
namespace Go.Proofs.Qxb6615962aFmt
open Go.RowKit Go.Shelf

attribute [local go_sem] Oper.semAt_some

/-- The runs of a packed year set. -/
def yearRun (p : ByteArray) (i : Nat) : Int × Int := ((yr p (4 * i) : Int), (yr p (4 * i + 2) : Int))
def yearRuns (p : ByteArray) (n : Nat) : List (Int × Int) := (List.range n).map (yearRun p)

theorem yearRuns_succ (p : ByteArray) (n : Nat) : yearRuns p (n + 1) = yearRuns p n ++ [yearRun p n] := by
  unfold yearRuns; rw [List.range_succ, List.map_append]; rfl
theorem yearRuns_len (p : ByteArray) (n : Nat) : (yearRuns p n).length = n := by simp [yearRuns]

set_option maxRecDepth 100000 in
set_option maxHeartbeats 2000000 in
theorem years_give (Ok : Int × Int → Prop) (p : ByteArray) (hs : p.size ≤ 524288) (hok : ∀ i, i < p.size / 4 → Ok (yearRun p i)) (n₀ : Nat) (w0 : World) :
    Gives 26 #[.agg #[.string p]] (encP (Ok := Ok)) n₀ (fun xs => xs.map (·.1) = yearRuns p (p.size / 4)) (p.size / 4) w0 := by
  intro l J W hW hJ hY hJ0
  have HY : Hid (∀ pre x W1, J pre W1 → pre.length < p.size / 4 → YieldAt Fence.wide 3 Tryf.prog l (encP (Ok := Ok) x) W1 fun e W' => e = .returned (.bool true) ∧ J (pre ++ [x]) W' ∧ Kr n₀ W1 W') := hY
  have HJ : Hid (∀ s A B, J s A → Below A.heap.size A B → J s B) := hJ
  have HO : Hid (∀ i, i < p.size / 4 → Ok (yearRun p i)) := hok
  clear hY hJ hW hok
  have hJ1 : J [] (W.alloc (.cells #[.string p] 40)) := HJ.out _ _ _ hJ0 ((Below.refl _ _).alloc (Nat.le_refl _) _)
  have hB1 : (W.alloc (.cells #[.string p] 40)).heap[W.heap.size]? = some (.cells #[.string p] 40) := heap_alloc_new W _
  have H1 : Hid (J [] (W.alloc (.cells #[.string p] 40)) ∧ (W.alloc (.cells #[.string p] 40)).heap[W.heap.size]? = some (.cells #[.string p] 40)) := ⟨hJ1, hB1⟩
  clear hJ1 hB1 hJ0
  obtain ⟨m, hm⟩ : ∃ m, p.size / 4 = m := ⟨_, rfl⟩
  rw [hm] at HY HO ⊢
  have hmi : (p.size : Int) / 4 = m := by omega
  refine callsIn_of_wp Tryf.func26 rfl trivial ?_ rfl
  simp only [Tryf.ntmps26, List.size_toArray, List.length_cons, List.length_nil, Nat.reduceAdd, Nat.reduceSub, Array.replicate_succ, Array.replicate_zero, List.push_toArray, List.append_toArray, List.nil_append, List.cons_append]
  gi_wp2
  gi_loopw [9] (fun k wr => ∃ (i : Nat) (pre : List (Pr Ok)), k = .int .i64 i ∧ i ≤ m ∧ pre.map (·.1) = yearRuns p i ∧ J pre wr ∧ wr.heap[W.heap.size]? = some (.cells #[.string p] 40))
    (fun k _ => m - (intOf k).toNat)
  case atStart => exact ⟨0, [], rfl, Nat.zero_le _, rfl, H1.out.1, H1.out.2⟩
  case round =>
    obtain ⟨i, pre, rfl, hi, hpre, hJs, hB⟩ := hrel
    have HG : Hid (pre.map (·.1) = yearRuns p i ∧ J pre wr ∧ wr.heap[W.heap.size]? = some (.cells #[.string p] 40)) := ⟨hpre, hJs, hB⟩
    have hc : wr.cell? ⟨W.heap.size, 0, none⟩ = some (.string p) := by simp [World.cell?, hB]
    clear hpre hJs hB
    by_cases hlt : i < m
    · gi_wp2_with fail
      refine ⟨trivial, ?_⟩
      refine (callsIn_wide.2 (run_year p i (by omega) hs wr)).mono ?_
      rintro e w2 ⟨rfl, hb2⟩
      have hJ2 := HJ.out _ _ _ HG.out.2.1 hb2
      have hB2 : w2.heap[W.heap.size]? = some (.cells #[.string p] 40) := (hb2.block _ (Array.getElem?_eq_some_iff.1 HG.out.2.2).1).trans HG.out.2.2
      have hlen : pre.length < m := by
        have h1 := congrArg List.length HG.out.1
        rw [List.length_map, yearRuns_len] at h1
        omega
      obtain ⟨fn, tmps, assign, body, hyy, hR⟩ := HY.out pre ⟨yearRun p i, HO.out i hlt⟩ w2 hJ2 hlen
      have HE : Hid ((pre ++ [(⟨yearRun p i, HO.out i hlt⟩ : Pr Ok)]).map (·.1) = yearRuns p (i + 1)) := by
        show _ = _
        rw [List.map_append, HG.out.1, yearRuns_succ]; rfl
      have HR : Hid (RoundIn _ _ _ _ _ _ _ _ _ _) := hR
      have HB2 : Hid (w2.heap[W.heap.size]? = some (.cells #[.string p] 40)) := hB2
      dsimp only [encP, yearRun] at hyy
      clear hR hJ2 hB2 hlen hc hb2
      gi_wp2_with fail
      refine HR.out.mono ?_
      rintro e W3 ⟨rfl, hJ3, hk3⟩
      gi_wp2
      go_roundw
      case rel => exact ⟨i + 1, _, by go_num, by omega, HE.out, hJ3, hk3.2 _ _ _ HB2.out⟩
      case measure => simp [intOf] <;> omega
    · obtain rfl : i = m := by omega
      gi_wp2
      go_end0
      exact ⟨⟨_, rfl⟩, pre, HG.out.1, HG.out.2.1⟩
end Go.Proofs.Qxb6615962aFmt
