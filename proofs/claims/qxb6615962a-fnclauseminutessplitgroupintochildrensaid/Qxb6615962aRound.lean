import Derived.Test.Qxb6615962aNew
import Derived.RangeFuncNested
import Derived.RangeFuncBound
import Derived.RangeFuncCalls
import Derived.RangeFuncLeaves
import Derived.Shelf.Abstract
import Derived.Shelf.RegionOpen
import Derived.WalkKit
import Derived.OwnWalkIn
import Derived.TacticsInMore
import Derived.LoopNIn
import Derived.LoopIn
namespace Go.Proofs.Qxb6615962a
open Go.RowKit Go.Shelf

section
variable {P : Program} {ops : Array Oper} {Q : Exit → Act → World → Prop} {md : Region.Mode}

/-- A region of a round without a deferred call, walked as outside every loop: under the widest fence the two are one. -/
theorem upon_round {o : Oper} {a : Act} {K : Act → World → Prop} {r : Result Next} (l n : Nat) (h : o.upon P a K Q r) : o.uponIn (Fence.wide.inRound l) n P a K Q r := by
  cases r with
  | ok x w =>
    cases x with
    | value v => exact h
    | skip => exact h
    | defer d => exact h
    | enter f args => exact ⟨fun e => by simp [Fence.wide] at e, CallsIn.inRound l (callsIn_wide.2 h)⟩
    | row row args => exact ⟨fun e => by simp [Fence.wide] at e, fun c cs _ => let ⟨v, w', hr, hs⟩ := h c cs; ⟨v, w', hr, stepsIn_wide.2 hs⟩⟩
    | _ => exact h.elim
  | halt x w =>
    cases x with
    | panic v => exact h
    | _ => exact h.elim

theorem wpOp_round {i : Nat} {a : Act} {w : World} {K : Act → World → Prop} (l n : Nat) (hd : ∀ o, ops[i]? = some o → ∀ c, o.op ≠ .defer c) (hQ : ¬ LetsOut Q) (h : wpOp P ops Q i K a w) : wpOpIn (Fence.wide.inRound l) n P ops Q i K a w := by
  unfold wpOp at h
  unfold wpOpIn
  cases ho : ops[i]? with
  | none => rw [ho] at h; exact h
  | some o =>
    rw [ho] at h
    simp only at h ⊢
    split
    · rename_i hw
      simp only [hw, if_true] at h
      rcases h with h | h
      · refine ⟨fun f _ => trivial, ?_⟩
        show o.uponIn _ n P a K Q ((o.semAt (some l) a.eval).run P w)
        rw [Oper.semAt_some l a.eval o (hd o ho)]
        exact upon_round l n h
      · exact absurd h.2 hQ
    · rename_i hw
      simp only [hw] at h
      exact ⟨fun f _ => trivial, h⟩

theorem any_round (l n : Nat) (hd : ∀ (i : Nat) (o : Oper), ops[i]? = some o → ∀ c, o.op ≠ .defer c) (hQ : ¬ LetsOut Q) : ∀ (fuel : Nat) (listed : Array Bool) (a : Act) (w : World), wpAny P md ops Q fuel listed a w → wpAnyIn (Fence.wide.inRound l) n P md ops Q fuel listed a w
  | 0, _, _, _, h => h
  | fuel + 1, _, _, _, h => ⟨h.1, fun i hi => wpOp_round l n (hd i) hQ (wpOp_mono (fun a' w' h' => any_round l n hd hQ fuel _ a' w' h') (h.2 i hi))⟩

/-- No operation defers. -/
def noDefer (ops : Array Oper) : Bool := ops.all fun o => match o.op with | .defer _ => false | _ => true

theorem noDefer_spec (h : noDefer ops = true) : ∀ (i : Nat) (o : Oper), ops[i]? = some o → ∀ c, o.op ≠ .defer c := by
  intro i o ho c hc
  unfold noDefer at h
  rw [Array.all_eq_true_iff_forall_mem] at h
  have := h o (Array.mem_of_getElem? ho)
  rw [hc] at this
  simp at this

theorem region_round {id : Nat} {a : Act} {w : World} (l n : Nat) (hm : P.follows .mixedOrders = true) (hd : noDefer ops = true) (hQ : ¬ LetsOut Q)
    (h : wpAny P .any ops Q ops.size (Array.replicate ops.size false) a w.drew) : (Code.region id ops true).wpIn (Fence.wide.inRound l) n P Q a w :=
  wpIn_region_any hm (any_round l n (noDefer_spec hd) hQ _ _ _ _ h)

end
end Go.Proofs.Qxb6615962a
