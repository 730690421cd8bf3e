/-
  No cell of these rows narrows 'for every input' (looked for: loops, veiled, ifaces, maps, wideKeys, modest, calm, conditions, laid).
  DERIVED. THE GIVEN ROWS OF THIS SEAT. 3 by the template 'for every input the law returns true; each argument reads behind the call as it read before'; 0 by the template 'total and deterministic' (their statements: Qxb6614905aTotals.lean).
  GIVEN WITH THE SEED: the statements are not yours to turn. If you find one false, say at which input.
  Laid BY PROGRAM, IN A SANDBOX (cutbox-rows.mjs): the forced cells as the released guide's own fill.sh prints them over the translation a48d0f8bb7cf8376… (all of the seat's roots in one cut). By AI agents, Wed Nov 11 2026. No macro, syntax, notation, axiom, sorry.
-/
import Derived.Test.Qxb6614905aChecked
import GoSem.Claim
import GoSem.ClaimJoined
import GoSem.ClaimMapViews
import Derived.JoinedTies
import Derived.KernelRfl
namespace Go.Proofs.Qxb6614905a
/- THE CELL 'sum', in the pinned program and in every row, IS THE sha256 OF THE DUMP (.gsa) THAT Qxb6614905aProg.lean LOADS. Nothing in Lean hashes anything: it is a label: what it is worth is what the hold of that sum in a sandbox is worth. -/
noncomputable def Try.pinned : Pinned := { name := "qxb6614905a", sum := "a48d0f8bb7cf8376011e0c2a2820faad4d5b7d12fb5f301be3278c2893ea9d73", checked := Try.checked }
namespace Rows
def none {H : Type} : Left H := { results := [], args := [] }

/-- 'zzlaws_internal_syntax_b1.FnCompositeLitPosTypeChain': WHATEVER THE INPUT: true; the input reads as it did. -/
def fnCompositeLitPosTypeChainSpec : ChangeSpec := { name := "fnCompositeLitPosTypeChain", fn := fun _ => fun
  | [d1, d2] => { results := [.lit (.bool true)], args := [d1, d2] }
  | _ => none }
def fnCompositeLitPosTypeChainRow : OpenClaim := { program := "qxb6614905a", sum := "a48d0f8bb7cf8376011e0c2a2820faad4d5b7d12fb5f301be3278c2893ea9d73", func := "example.com/ferrule/ferrule/zzlaws_internal_syntax_b1.FnCompositeLitPosTypeChain", spec := "fnCompositeLitPosTypeChain", unfollowed := true, recurses := true, apart := false }
def FnCompositeLitPosTypeChainSaid : Prop := fnCompositeLitPosTypeChainRow.holds Try.pinned (OpenSpec.ofChange fnCompositeLitPosTypeChainSpec)

/-- ITS FALSE NEIGHBOUR: 'it returns false'. Refute it at one input. -/
def fnCompositeLitPosTypeChainWrong : ChangeSpec := { name := "fnCompositeLitPosTypeChain", fn := fun _ => fun
  | [d1, d2] => { results := [.lit (.bool false)], args := [d1, d2] }
  | _ => none }
def FnCompositeLitPosTypeChainWrongFalsely : Prop := fnCompositeLitPosTypeChainRow.holds Try.pinned (OpenSpec.ofChange fnCompositeLitPosTypeChainWrong)

/-- 'zzlaws_internal_syntax_b1.FnCompositeLitPosIgnoresEltsAndRbrace': WHATEVER THE INPUT: true; the input reads as it did. -/
def fnCompositeLitPosIgnoresEltsAndRbraceSpec : ChangeSpec := { name := "fnCompositeLitPosIgnoresEltsAndRbrace", fn := fun _ => fun
  | [d1, d2, d3, d4, d5, d6, d7, d8, d9] => { results := [.lit (.bool true)], args := [d1, d2, d3, d4, d5, d6, d7, d8, d9] }
  | _ => none }
def fnCompositeLitPosIgnoresEltsAndRbraceRow : OpenClaim := { program := "qxb6614905a", sum := "a48d0f8bb7cf8376011e0c2a2820faad4d5b7d12fb5f301be3278c2893ea9d73", func := "example.com/ferrule/ferrule/zzlaws_internal_syntax_b1.FnCompositeLitPosIgnoresEltsAndRbrace", spec := "fnCompositeLitPosIgnoresEltsAndRbrace", unfollowed := true, recurses := true, apart := false }
def FnCompositeLitPosIgnoresEltsAndRbraceSaid : Prop := fnCompositeLitPosIgnoresEltsAndRbraceRow.holds Try.pinned (OpenSpec.ofChange fnCompositeLitPosIgnoresEltsAndRbraceSpec)

/-- ITS FALSE NEIGHBOUR: 'it returns false'. Refute it at one input. -/
def fnCompositeLitPosIgnoresEltsAndRbraceWrong : ChangeSpec := { name := "fnCompositeLitPosIgnoresEltsAndRbrace", fn := fun _ => fun
  | [d1, d2, d3, d4, d5, d6, d7, d8, d9] => { results := [.lit (.bool false)], args := [d1, d2, d3, d4, d5, d6, d7, d8, d9] }
  | _ => none }
def FnCompositeLitPosIgnoresEltsAndRbraceWrongFalsely : Prop := fnCompositeLitPosIgnoresEltsAndRbraceRow.holds Try.pinned (OpenSpec.ofChange fnCompositeLitPosIgnoresEltsAndRbraceWrong)

/-- 'zzlaws_internal_syntax_b1.FnCommClausePosIsCaseKeyword': WHATEVER THE INPUT: true; the input reads as it did. -/
def fnCommClausePosIsCaseKeywordSpec : ChangeSpec := { name := "fnCommClausePosIsCaseKeyword", fn := fun _ => fun
  | [d1, d2, d3, d4, d5, d6] => { results := [.lit (.bool true)], args := [d1, d2, d3, d4, d5, d6] }
  | _ => none }
def fnCommClausePosIsCaseKeywordRow : OpenClaim := { program := "qxb6614905a", sum := "a48d0f8bb7cf8376011e0c2a2820faad4d5b7d12fb5f301be3278c2893ea9d73", func := "example.com/ferrule/ferrule/zzlaws_internal_syntax_b1.FnCommClausePosIsCaseKeyword", spec := "fnCommClausePosIsCaseKeyword", apart := false }
def FnCommClausePosIsCaseKeywordSaid : Prop := fnCommClausePosIsCaseKeywordRow.holds Try.pinned (OpenSpec.ofChange fnCommClausePosIsCaseKeywordSpec)

/-- ITS FALSE NEIGHBOUR: 'it returns false'. Refute it at one input. -/
def fnCommClausePosIsCaseKeywordWrong : ChangeSpec := { name := "fnCommClausePosIsCaseKeyword", fn := fun _ => fun
  | [d1, d2, d3, d4, d5, d6] => { results := [.lit (.bool false)], args := [d1, d2, d3, d4, d5, d6] }
  | _ => none }
def FnCommClausePosIsCaseKeywordWrongFalsely : Prop := fnCommClausePosIsCaseKeywordRow.holds Try.pinned (OpenSpec.ofChange fnCommClausePosIsCaseKeywordWrong)

end Rows
end Go.Proofs.Qxb6614905a
