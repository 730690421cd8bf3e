/-
  No cell of these rows narrows 'for every input' (looked for: loops, veiled, ifaces, maps, wideKeys, modest, calm, conditions, laid).
  DERIVED. THE GIVEN ROWS OF THIS SEAT. 1 by the template 'for every input the law returns true; each argument reads behind the call as it read before'; 0 by the template 'total and deterministic' (their statements: Qxb6614803aTotals.lean).
  GIVEN WITH THE SEED: the statements are not yours to turn. If you find one false, say at which input.
  Laid BY PROGRAM, IN A SANDBOX (cutbox-rows.mjs): the forced cells as the released guide's own fill.sh prints them over the translation 452fcf174a3b0324… (all of the seat's roots in one cut). By AI agents, Wed Nov 11 2026. No macro, syntax, notation, axiom, sorry.
-/
import Derived.Test.Qxb6614803aChecked
import GoSem.Claim
import GoSem.ClaimJoined
import GoSem.ClaimMapViews
import Derived.JoinedTies
import Derived.KernelRfl
namespace Go.Proofs.Qxb6614803a
/- THE CELL 'sum', in the pinned program and in every row, IS THE sha256 OF THE DUMP (.gsa) THAT Qxb6614803aProg.lean LOADS. Nothing in Lean hashes anything: it is a label: what it is worth is what the hold of that sum in a sandbox is worth. -/
noncomputable def Try.pinned : Pinned := { name := "qxb6614803a", sum := "452fcf174a3b03248430c0fec390e78e7a39cfc19853e7a1b54de1e7a2266fa0", checked := Try.checked }
namespace Rows
def none {H : Type} : Left H := { results := [], args := [] }

/-- 'zzlaws_internal_jws_b1.FnGetIssuedAtHandsOutAFreshCopy': WHATEVER THE INPUT: true; the input reads as it did. -/
def fnGetIssuedAtHandsOutAFreshCopySpec : ChangeSpec := { name := "fnGetIssuedAtHandsOutAFreshCopy", fn := fun _ => fun
  | [d1, d2, d3, d4] => { results := [.lit (.bool true)], args := [d1, d2, d3, d4] }
  | _ => none }
def fnGetIssuedAtHandsOutAFreshCopyRow : OpenClaim := { program := "qxb6614803a", sum := "452fcf174a3b03248430c0fec390e78e7a39cfc19853e7a1b54de1e7a2266fa0", func := "example.com/delegated-tokens/delegated-tokens/zzlaws_internal_jws_b1.FnGetIssuedAtHandsOutAFreshCopy", spec := "fnGetIssuedAtHandsOutAFreshCopy", apart := false }
def FnGetIssuedAtHandsOutAFreshCopySaid : Prop := fnGetIssuedAtHandsOutAFreshCopyRow.holds Try.pinned (OpenSpec.ofChange fnGetIssuedAtHandsOutAFreshCopySpec)

/-- ITS FALSE NEIGHBOUR: 'it returns false'. Refute it at one input. -/
def fnGetIssuedAtHandsOutAFreshCopyWrong : ChangeSpec := { name := "fnGetIssuedAtHandsOutAFreshCopy", fn := fun _ => fun
  | [d1, d2, d3, d4] => { results := [.lit (.bool false)], args := [d1, d2, d3, d4] }
  | _ => none }
def FnGetIssuedAtHandsOutAFreshCopyWrongFalsely : Prop := fnGetIssuedAtHandsOutAFreshCopyRow.holds Try.pinned (OpenSpec.ofChange fnGetIssuedAtHandsOutAFreshCopyWrong)

end Rows
end Go.Proofs.Qxb6614803a
