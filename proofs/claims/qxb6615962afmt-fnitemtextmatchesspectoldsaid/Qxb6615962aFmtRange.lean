import Derived.Test.Qxb6615962aFmtSets
import Derived.RangeFuncNested
import Derived.RangeFuncBound
import Derived.RangeFuncCalls
import Derived.RangeFuncLeaves
import Derived.Shelf.Abstract
import Derived.Shelf.RegionOpen
import Derived.WalkKit
import Derived.OwnWalkIn
import Derived.TacticsInMore
import Derived.LoopNIn
import Derived.LoopIn
namespace Go.Proofs.Qxb6615962aFmt
open Go.RowKit Go.Shelf

/-! ### a range over a bound method: 'for .. := range s.runs { .. }', of a body that always goes on -/

/-- What a round keeps, as the iterator sees it: what lies below n₀, and every box of a year set. -/
def Kr (n₀ : Nat) (W W' : World) : Prop := Below n₀ W W' ∧ ∀ (k : Nat) (c : Array Value) (fz : Nat × Nat), W.heap[k]? = some (Obj.cells c 40 fz) → W'.heap[k]? = some (Obj.cells c 40 fz)

theorem Kr.refl (n₀ : Nat) (W : World) : Kr n₀ W W := ⟨Below.refl _ _, fun _ _ _ h => h⟩
theorem Kr.trans {n₀ : Nat} {A B C : World} (h : Kr n₀ A B) (k : Kr n₀ B C) : Kr n₀ A C := ⟨h.1.trans k.1, fun i c fz hi => k.2 i c fz (h.2 i c fz hi)⟩
theorem Kr.of_below {n₀ : Nat} {A B : World} (h : Below A.heap.size A B) (hn : n₀ ≤ A.heap.size) : Kr n₀ A B :=
  ⟨h.mono hn, fun k c fz hk => by rw [h.block k (Array.getElem?_eq_some_iff.1 hk).1]; exact hk⟩
theorem Kr.putObj {n₀ : Nat} {W : World} {l : Nat} {o o' : Obj} (hl : W.heap[l]? = some o) (ho : o.isCells = false) (hn : n₀ ≤ l) : Kr n₀ W (W.putObj l o') := by
  refine ⟨⟨rfl, rfl, rfl, by simp [World.putObj], fun b hb => World.putObj_heap_other (by omega)⟩, fun k c fz hk => ?_⟩
  by_cases hkl : k = l
  · subst hkl; rw [hk] at hl; cases hl; cases ho
  · rw [World.putObj_heap_other (fun e => hkl e)]; exact hk

/-- What the law and the iterator turn between two rounds: no cells that lay, nothing below B. -/
def Ab (B : Nat) (A A' : World) : Prop := Below B A A' ∧ ∀ (k : Nat) (o : Obj), A.heap[k]? = some o → o.isCells = true → A'.heap[k]? = some o

theorem Ab.of_below {B : Nat} {A A' : World} (h : Below A.heap.size A A') (hB : B ≤ A.heap.size) : Ab B A A' :=
  ⟨h.mono hB, fun k o hk _ => by rw [h.block k (Array.getElem?_eq_some_iff.1 hk).1]; exact hk⟩
theorem Ab.putObj {B : Nat} {W : World} {l : Nat} {o o' : Obj} (hl : W.heap[l]? = some o) (ho : o.isCells = false) (hn : B ≤ l) : Ab B W (W.putObj l o') := by
  refine ⟨⟨rfl, rfl, rfl, by simp [World.putObj], fun b hb => World.putObj_heap_other (by omega)⟩, fun k x hk hx => ?_⟩
  by_cases hkl : k = l
  · subst hkl; rw [hk] at hl; cases hl; rw [ho] at hx; cases hx
  · rw [World.putObj_heap_other (fun e => hkl e)]; exact hk

/-- The contract of an iterator that is a method bound to its receiver (bd): whatever its caller's rounds do, they come to xs. -/
def Gives {α : Type} (gf : Nat) (bd : Array Value) (encs : α → Array Value) (n₀ : Nat) (S : List α → Prop) (N : Nat) (w0 : World) : Prop :=
  ∀ (l : Nat) (J : List α → World → Prop) (W : World), Below w0.heap.size w0 W → (∀ s A B, J s A → Below A.heap.size A B → J s B) →
    (∀ pre x W1, J pre W1 → pre.length < N → YieldAt Fence.wide 3 Tryf.prog l (encs x) W1 fun e W' => e = .returned (.bool true) ∧ J (pre ++ [x]) W' ∧ Kr n₀ W1 W') →
    J [] W → CallsIn Fence.wide 4 Tryf.prog gf (bd ++ #[.func (.yield l) #[] #[]]) W fun e W' => (∃ v, e = .returned v) ∧ ∃ xs, S xs ∧ J xs W'

theorem range_bound {α : Type} {g : Operand} {ps : Array Tmp} {assign body : Code} {Q : Exit → Act → World → Prop} {a : Act} {w : World} {gf : Nat} {bd : Array Value}
    (hg : a.eval g = .func (.func gf) bd #[]) (eg : ∀ args w, (callFunc gf args).run Tryf.prog w = .ok (.enter gf args) w)
    {encs : α → Array Value} {n₀ : Nat} {S : List α → Prop} {N : Nat} (hn₀ : n₀ ≤ w.heap.size) (hseq : Gives gf bd encs n₀ S N w) (hps : ∀ x, (encs x).size = ps.size)
    (I : List α → World → Prop) (hI : ∀ s A B, I s A → Ab w.heap.size A B → I s B) (h0 : I [] w) (a₁ : α → Act)
    (hassign : ∀ (l : Nat) (x : α) (W : World) (K : Act → World → Prop), K (a₁ x) W →
      assign.wpIn (Fence.wide.inRound l) 3 Tryf.prog (Exit.then K (fun _ _ _ => False)) { tmps := (ps.zip (encs x)).foldl (fun t (p, v) => t.setIfInBounds p v) a.tmps, defers := [] } W)
    (hbody : ∀ (l : Nat) (pre : List α) (x : α) (W : World), I pre W → pre.length < N → body.wpIn (Fence.wide.inRound l) 3 Tryf.prog (fun e _ W' => e = .normal ∧ KeepsOthers W W' ∧ Kr n₀ W W' ∧ I (pre ++ [x]) W') (a₁ x) W)
    (hdone : ∀ (D : Nat) (xs : List α) (W : World), w.heap.size ≤ D → S xs → I xs W → W.heap[D]? = some (.deferred (some [])) → Q .normal { a with defers := { target := .collected D, args := #[] } :: a.defers } W) :
    (Code.rangeFunc g ps assign body).wpIn Fence.wide 5 Tryf.prog Q a w := by
  refine wpIn_rangeFunc ?_
  intro fn hfn
  obtain ⟨rec, hrec⟩ : ∃ rec : LoopState → Option Code → Loop, rec = fun st pe => { state := st, pending := pe, fn, tmps := a.tmps, params := ps, assign, body, defers := w.heap.size } := ⟨_, rfl⟩
  obtain ⟨W1, hW1⟩ : ∃ W1, (w.alloc (.deferred (some []))).alloc (.loop (rec .ready none)) = W1 := ⟨_, rfl⟩
  have hb1 : Below w.heap.size w W1 := by rw [← hW1]; exact ((Below.refl _ w).alloc (Nat.le_refl _) _).alloc (by simp) _
  have hs1 : W1.heap.size = w.heap.size + 1 + 1 := by rw [← hW1]; simp
  have hL1 : W1.heap[w.heap.size + 1]? = some (.loop (rec .ready none)) := by
    rw [← hW1]; have := World.alloc_heap_new (w.alloc (.deferred (some []))) (.loop (rec .ready none)); rwa [World.size_alloc] at this
  have hK1 : W1.heap[w.heap.size]? = some (.deferred (some [])) := by
    rw [← hW1]; exact (Below.heap_alloc _ _ _ (by simp)).trans (World.alloc_heap_new w _)
  refine ⟨w.heap.size + 1, [{ target := .collected w.heap.size, args := #[] }], W1, { target := .fn (.func gf) #[], args := bd ++ #[.func (.yield (w.heap.size + 1)) #[] #[]] }, W1, gf,
    bd ++ #[.func (.yield (w.heap.size + 1)) #[] #[]], W1, ?_, ?_, fun _ _ => trivial, ?_, fun h => by simp [Fence.wide] at h, ?_⟩
  · rw [← hW1, hrec]; exact run_enterLoop_outer _ _ _ _ _
  · simp only [resolve, hg]
    simp [go_sem]
  · simp [invoke, go_sem, eg]
  · refine (hseq (w.heap.size + 1)
      (fun pre W => I pre W ∧ W.heap[w.heap.size + 1]? = some (.loop (rec .ready none)) ∧ W.heap[w.heap.size]? = some (.deferred (some [])) ∧ w.heap.size ≤ W.heap.size)
      W1 hb1 ?_ ?_ ⟨hI _ _ _ h0 (Ab.of_below hb1 (Nat.le_refl _)), hL1, hK1, hb1.size⟩).mono ?_
    · rintro s A B ⟨h1, h2, h3, h4⟩ hAB
      have k1 := (Array.getElem?_eq_some_iff.1 h2).1
      exact ⟨hI _ _ _ h1 (Ab.of_below hAB h4), (hAB.block _ k1).trans h2, (hAB.block _ (by omega)).trans h3, Nat.le_trans h4 hAB.size⟩
    · rintro pre x W ⟨hi, hl, hk, hsz⟩ hlen
      have hlt : w.heap.size + 1 < W.heap.size := (Array.getElem?_eq_some_iff.1 hl).1
      have hy := run_yield (P := Tryf.prog) (args := encs x) hl (by rw [hrec]; exact hps x)
      rw [hrec] at hy
      refine ⟨fn, _, assign, body, hy, roundIn_of_wpIn hfn (hassign _ x W _ ⟨_, run_beginRound hl (by rw [hrec]), ?_⟩)⟩
      have hl2 : (W.putObj (w.heap.size + 1) (.loop { rec .ready none with state := .busy })).heap[w.heap.size + 1]? = some (.loop { rec .ready none with state := .busy }) := World.putObj_heap_same hlt
      have hk2 : (W.putObj (w.heap.size + 1) (.loop { rec .ready none with state := .busy })).heap[w.heap.size]? = some (.deferred (some [])) := (World.putObj_heap_other (by omega)).trans hk
      have hw2 : Kr n₀ W (W.putObj (w.heap.size + 1) (.loop { rec .ready none with state := .busy })) := Kr.putObj hl rfl (by omega)
      have hi2 := hI _ _ _ hi (Ab.putObj (o' := .loop { rec .ready none with state := .busy }) hl rfl (by omega))
      refine wpIn_mono (hbody _ pre x _ hi2 hlen) ?_
      rintro e a3 W3 ⟨rfl, hk3, hkr3, hi3⟩
      have hl3 := hk3.same _ _ hl2 rfl
      have hr := run_endRound (P := Tryf.prog) none hl3
      have hlt3 : w.heap.size + 1 < W3.heap.size := (Array.getElem?_eq_some_iff.1 hl3).1
      have hw4 : Kr n₀ W3 (W3.putObj (w.heap.size + 1) (.loop (rec .ready none))) := Kr.putObj hl3 rfl (by omega)
      have hi4 := hI _ _ _ hi3 (Ab.putObj (o' := .loop (rec .ready none)) hl3 rfl (by omega))
      refine ⟨.bool true, W3.putObj (w.heap.size + 1) (.loop (rec .ready none)), ?_, rfl, ⟨hi4, World.putObj_heap_same hlt3, (World.putObj_heap_other (by omega)).trans (hk3.same _ _ hk2 rfl), ?_⟩, (hw2.trans hkr3).trans hw4⟩
      · rw [hrec] at hr ⊢
        exact hr
      · have := hw4.1.size
        omega
    · rintro e W2 ⟨⟨v, rfl⟩, xs, hS, hi, hl, hk, hsz⟩
      have hE := run_endLoop (P := Tryf.prog) hl (by rw [hrec]; simp)
      rw [hrec] at hE
      refine ⟨none, _, hE, ?_⟩
      refine hdone _ xs _ (Nat.le_refl _) hS (hI _ _ _ hi (Ab.putObj hl rfl (by omega))) ((World.putObj_heap_other (by omega)).trans hk)
end Go.Proofs.Qxb6615962aFmt
