import Derived.Test.Qxb6615962aFmtFn
import Derived.Test.Qxb6615962aFmtOpen
import Derived.Test.Qxb6615962aFmtLaid
import Derived.Test.Qxb6615962aFmtTie
import Derived.Test.Qxb6615962aFmtCards
import Derived.SevenTiedAt
import Derived.Stop.JoinedTold
import Derived.SizedLaws
import Derived.ShutString
namespace Go.Proofs.Qxb6615962aFmt
open Go.ChangeShapes Go.WideShapes Go.ChangeAt Go.RowKit Go.Kit
open Go.ChangeMaps (open_string shut_string)
open Go.Extern.Stop Go.Stop Go.Extern

theorem own : ownKnob Tryf.prog.godebug = none := by kernel_rfl
theorem laidOut : laidOutB Tryf.pinned.checked.prog = true := by kernel_rfl
theorem laidOutP : laidOutB Tryf.prog = true := by kernel_rfl
theorem stops : Tryf.pinned.checked.prog.stops = ["fmt.Sprintf"] := by kernel_rfl
theorem stopKnobs : Tryf.pinned.checked.prog.stopKnobs = [] := by kernel_rfl
theorem quiet (os : Os) : Stop.quiet Tryf.pinned.checked.prog os := by
  intro k hk
  rw [stopKnobs] at hk
  cases hk

theorem okWide_array {r : Reach} {base : Nat} {W : World} {v : Value} (h : Value.okWide Tryf.prog W r base 23 v) : ∃ cs, v = .agg cs := by
  simp only [Value.okWide, Tryf.underlying23] at h
  obtain ⟨cs, h1, _⟩ := h
  exact ⟨cs, h1⟩

theorem slice_lt {r : Reach} {base : Nat} {W : World} {a : Addr} {len cap : Nat} (h : Value.okWide Tryf.prog W r base 24 (.slice (some a) len cap)) : a.block < W.heap.size := by
  simp only [Value.okWide, Cell.okWide, Cell.ok, Tryf.underlying24] at h
  obtain ⟨_, _, _, _, row, cells, hs, _⟩ := h
  unfold World.shape? at hs
  rcases Nat.lt_or_ge a.block W.heap.size with h | h
  · exact h
  · rw [Array.getElem?_eq_none h] at hs; cases hs

set_option maxRecDepth 100000 in
theorem lifted (os : Os) (started : os.Started) (H : Type) (enc : TypeId × Value → H) :
    ReturnsInTold none {} Tryf.checked os 3 .any Input.okWide ((OpenSpec.ofChange Rows.fnItemTextMatchesSpecSpec).preRow enc Tryf.prog Tryf.f3 Rows.fnItemTextMatchesSpecRow.domain false Rows.fnItemTextMatchesSpecRow.laid)
      (fun F => ((OpenSpec.ofChange Rows.fnItemTextMatchesSpecSpec).at F).post enc Tryf.prog Tryf.f3 false true false false) (aloneAtReturn Tryf.prog) nothingAlways := by
  refine returnsInTold_of_row (C := Tryf.checked) (s := OpenSpec.ofChange Rows.fnItemTextMatchesSpecSpec) (by kernel_rfl) own started (by kernel_rfl) Tryf.func3 (witness os enc) ?_
  intro F W base args ds gs before _ hF hval0 hW _ _ _ hL _
  have hval : ∀ (j : Nat) t v, Tryf.f3.params[j]? = some t → args[j]? = some v → Value.okWide Tryf.prog W .any base t v := hval0
  have hW' := hW
  obtain ⟨p, q, hA0, hV, rfl, hfz, hnd⟩ := hW
  have hA : DataW.TrodAll enc Tryf.prog W 0 (fun _ => true) true Tryf.f3.params.toList args.toList ds p := hA0
  rw [Tryf.params3] at hA hval
  obtain ⟨v0, vs0, d0, ds0, p0, q0, hargs, rfl, rfl, h0, r0⟩ := trodAll_cons hA
  obtain ⟨v1, vs1, d1, ds1, p1, q1, rfl, rfl, rfl, h1, r1⟩ := trodAll_cons r0
  obtain ⟨v2, vs2, d2, ds2, p2, q2, rfl, rfl, rfl, h2, r2⟩ := trodAll_cons r1
  obtain ⟨v3, vs3, d3, ds3, p3, q3, rfl, rfl, rfl, h3, r3⟩ := trodAll_cons r2
  obtain ⟨v4, vs4, d4, ds4, p4, q4, rfl, rfl, rfl, h4, r4⟩ := trodAll_cons r3
  obtain ⟨rfl, rfl, rfl⟩ := trodAll_nil r4
  obtain rfl : args = #[v0, v1, v2, v3, v4] := by cases args; simp_all
  obtain ⟨rfl, rfl⟩ := trodVars_none hV
  obtain ⟨s, rfl, rfl, rfl, ws⟩ := open_string Tryf.underlying9 (hval 1 9 v1 rfl rfl) h1
  obtain ⟨a2, rfl, rfl, rfl, w2⟩ := open_int Tryf.underlying22 (hval 2 22 v2 rfl rfl) h2
  obtain ⟨a4, rfl, rfl, rfl, w4⟩ := open_int Tryf.underlying22 (hval 4 22 v4 rfl rfl) h4
  obtain ⟨cs0, rfl⟩ := okWide_array (hval 0 23 v0 rfl rfl)
  obtain ⟨sa, len, cap, rfl⟩ := okWide_slice Tryf.underlying24 (hval 3 24 v3 rfl rfl)
  have k0 := h0
  have k3 := h3
  have lt0 : ∀ x ∈ p0, x.block < W.heap.size := by obtain ⟨m, hm⟩ := k0; exact DataW.trod_lt m _ _ _ hm
  have lt3 : ∀ x ∈ p3, x.block < W.heap.size := by obtain ⟨m, hm⟩ := k3; exact DataW.trod_lt m _ _ _ hm
  have walk : Calls Tryf.prog 3 #[.agg cs0, .string s, .int .u64 a2, .slice sa len cap, .int .u64 a4] W fun e w' => e = .returned (.bool true) ∧ Below W.heap.size W w' := by
    obtain ⟨gN, hE⟩ := env_of_laid F hF hL
    obtain ⟨fuel0, hf0⟩ := h0
    obtain ⟨fuel3, hf3⟩ := h3
    obtain ⟨ms, hms, h12, hmb⟩ := months_of hf0
    obtain ⟨tms, hlen, hnone, hsrc⟩ := times_of hf3
    have hcs : cs0 = (mcells ms).toArray := by
      rw [← hms]; simp [Value.cells]
    have hb2 := bounds_u64 w2
    have hb4 := bounds_u64 w4
    have hlt : ∀ a, sa = some a → a.block < W.heap.size := fun a ha => by
      subst ha; exact slice_lt (hval 3 24 _ rfl rfl)
    have := fn_any F gN W.heap.size ms s a2.toNat a4.toNat sa cap tms W hE h12 hmb (by omega) (by omega) hnone (fun a ha => ⟨hlt a ha, hsrc a ha⟩)
    rw [hlen, ← hcs, show ((a2.toNat : Nat) : Int) = a2 by omega, show ((a4.toNat : Nat) : Int) = a4 by omega] at this
    exact this
  clear hA0 hval0
  refine walk.mono fun e W' ⟨he, bel⟩ => ?_
  subst he
  exact ⟨_, rfl, _, _, _, [], _, [], hW', trodAll_mk1 (shut_bool Tryf.underlying4 _),
    (trodAll_cons_mk (Below.trod laidOutP (by kernel_rfl) (of_decide_eq_true (by kernel_rfl)) k0 bel lt0) (trodAll_cons_mk (shut_string Tryf.underlying9 ws) (trodAll_cons_mk (shut_int Tryf.underlying22 w2) (trodAll_cons_mk (Below.trod laidOutP (by kernel_rfl) (of_decide_eq_true (by kernel_rfl)) k3 bel lt3) (trodAll_cons_mk (shut_int Tryf.underlying22 w4) trodAll_mk0))))),
    rfl, bel.frame _, fun h => by cases h⟩

/-- THE STATEMENT: told and tied. -/
theorem proved : Rows.FnItemTextMatchesSpecToldSaid :=
  Claim7.holds_of_told_tied_any_at .later 3 Tryf.f3 "fmt.Sprintf" [] [] _ _ _ _ _ (by kernel_rfl) rfl rfl rfl laidOut (by kernel_rfl) rfl ⟨rfl, rfl, rfl, rfl, rfl, rfl, rfl⟩ rfl rfl (by kernel_rfl) (by kernel_rfl) Tryf.func3 (by kernel_rfl)
    (of_decide_eq_true (by kernel_rfl)) (of_decide_eq_true (by kernel_rfl)) stops.symm rfl stopKnobs.symm (by kernel_rfl)
    (by kernel_rfl) (by kernel_rfl) (by kernel_rfl) (by kernel_rfl) (by kernel_rfl) (by kernel_rfl) (by kernel_rfl) (by kernel_rfl) (by kernel_rfl) rfl (by kernel_rfl) rfl rfl
    rfl rfl
    rfl (by kernel_rfl) (by kernel_rfl) (by kernel_rfl) (by decide) (by kernel_rfl) fnItemTextMatchesSpec_row_tie
    (OpenClaim.moreEntering_of (by kernel_rfl) (by kernel_rfl) (by kernel_rfl) (by kernel_rfl) (by kernel_rfl) (by kernel_rfl) (by kernel_rfl) (by kernel_rfl) (by kernel_rfl) (by kernel_rfl))
    ⟨_, WideRow.started_initial, quiet _⟩
    (fun os started _ H enc _ => lifted os started H enc)
end Go.Proofs.Qxb6615962aFmt
