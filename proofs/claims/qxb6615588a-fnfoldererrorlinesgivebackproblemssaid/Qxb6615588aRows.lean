/-
  No cell of these rows narrows 'for every input' (looked for: loops, veiled, ifaces, maps, wideKeys, modest, calm, conditions, laid).
  DERIVED. THE GIVEN ROWS OF THIS SEAT. 3 by the template 'for every input the law returns true; each argument reads behind the call as it read before'; 0 by the template 'total and deterministic' (their statements: Qxb6615588aTotals.lean).
  GIVEN WITH THE SEED: the statements are not yours to turn. If you find one false, say at which input.
  Laid BY PROGRAM, IN A SANDBOX (cutbox-rows.mjs): the forced cells as the released guide's own fill.sh prints them over the translation fc9f52de89fd22e4… (all of the seat's roots in one cut). By AI agents, Wed Nov 11 2026. No macro, syntax, notation, axiom, sorry.
-/
import Derived.Test.Qxb6615588aChecked
import GoSem.Claim
import GoSem.ClaimJoined
import GoSem.ClaimMapViews
import Derived.JoinedTies
import Derived.KernelRfl
namespace Go.Proofs.Qxb6615588a
/- THE CELL 'sum', in the pinned program and in every row, IS THE sha256 OF THE DUMP (.gsa) THAT Qxb6615588aProg.lean LOADS. Nothing in Lean hashes anything: it is a label: what it is worth is what the hold of that sum in a sandbox is worth. -/
noncomputable def Try.pinned : Pinned := { name := "qxb6615588a", sum := "fc9f52de89fd22e4361ce828fcadf8dff15f6e32643beefb033d7c0424ab3eeb", checked := Try.checked }
namespace Rows
def none {H : Type} : Left H := { results := [], args := [] }

/-- 'zzlaws_internal_shift_b1.FnFolderErrorJoinsAtAnyCut': WHATEVER THE INPUT: true; the input reads as it did. -/
def fnFolderErrorJoinsAtAnyCutSpec : ChangeSpec := { name := "fnFolderErrorJoinsAtAnyCut", fn := fun _ => fun
  | [d1, d2] => { results := [.lit (.bool true)], args := [d1, d2] }
  | _ => none }
def fnFolderErrorJoinsAtAnyCutRow : OpenClaim := { program := "qxb6615588a", sum := "fc9f52de89fd22e4361ce828fcadf8dff15f6e32643beefb033d7c0424ab3eeb", func := "example.com/rowcall/rowcall/zzlaws_internal_shift_b1.FnFolderErrorJoinsAtAnyCut", spec := "fnFolderErrorJoinsAtAnyCut", inPlace := ["internal/abi.NoEscape", "internal/bytealg.MakeNoZero"], unfollowed := true, recurses := true, plainKeys := false, apart := false }
def FnFolderErrorJoinsAtAnyCutSaid : Prop := fnFolderErrorJoinsAtAnyCutRow.holds Try.pinned (OpenSpec.ofChange fnFolderErrorJoinsAtAnyCutSpec)

/-- ITS FALSE NEIGHBOUR: 'it returns false'. Refute it at one input. -/
def fnFolderErrorJoinsAtAnyCutWrong : ChangeSpec := { name := "fnFolderErrorJoinsAtAnyCut", fn := fun _ => fun
  | [d1, d2] => { results := [.lit (.bool false)], args := [d1, d2] }
  | _ => none }
def FnFolderErrorJoinsAtAnyCutWrongFalsely : Prop := fnFolderErrorJoinsAtAnyCutRow.holds Try.pinned (OpenSpec.ofChange fnFolderErrorJoinsAtAnyCutWrong)

/-- 'zzlaws_internal_shift_b1.FnFolderErrorLinesGiveBackProblems': WHATEVER THE INPUT: true; the input reads as it did. -/
def fnFolderErrorLinesGiveBackProblemsSpec : ChangeSpec := { name := "fnFolderErrorLinesGiveBackProblems", fn := fun _ => fun
  | [d] => { results := [.lit (.bool true)], args := [d] }
  | _ => none }
def fnFolderErrorLinesGiveBackProblemsRow : OpenClaim := { program := "qxb6615588a", sum := "fc9f52de89fd22e4361ce828fcadf8dff15f6e32643beefb033d7c0424ab3eeb", func := "example.com/rowcall/rowcall/zzlaws_internal_shift_b1.FnFolderErrorLinesGiveBackProblems", spec := "fnFolderErrorLinesGiveBackProblems", inPlace := ["internal/abi.NoEscape", "internal/bytealg.MakeNoZero"], unfollowed := true, recurses := true, plainKeys := false, apart := false }
def FnFolderErrorLinesGiveBackProblemsSaid : Prop := fnFolderErrorLinesGiveBackProblemsRow.holds Try.pinned (OpenSpec.ofChange fnFolderErrorLinesGiveBackProblemsSpec)

/-- ITS FALSE NEIGHBOUR: 'it returns false'. Refute it at one input. -/
def fnFolderErrorLinesGiveBackProblemsWrong : ChangeSpec := { name := "fnFolderErrorLinesGiveBackProblems", fn := fun _ => fun
  | [d] => { results := [.lit (.bool false)], args := [d] }
  | _ => none }
def FnFolderErrorLinesGiveBackProblemsWrongFalsely : Prop := fnFolderErrorLinesGiveBackProblemsRow.holds Try.pinned (OpenSpec.ofChange fnFolderErrorLinesGiveBackProblemsWrong)

/-- 'zzlaws_internal_shift_b1.FnStatusDoneChainsReady': WHATEVER THE INPUT: true; the input reads as it did. -/
def fnStatusDoneChainsReadySpec : ChangeSpec := { name := "fnStatusDoneChainsReady", fn := fun _ => fun
  | [d] => { results := [.lit (.bool true)], args := [d] }
  | _ => none }
def fnStatusDoneChainsReadyRow : OpenClaim := { program := "qxb6615588a", sum := "fc9f52de89fd22e4361ce828fcadf8dff15f6e32643beefb033d7c0424ab3eeb", func := "example.com/rowcall/rowcall/zzlaws_internal_shift_b1.FnStatusDoneChainsReady", spec := "fnStatusDoneChainsReady", plainKeys := false, apart := false }
def FnStatusDoneChainsReadySaid : Prop := fnStatusDoneChainsReadyRow.holds Try.pinned (OpenSpec.ofChange fnStatusDoneChainsReadySpec)

/-- ITS FALSE NEIGHBOUR: 'it returns false'. Refute it at one input. -/
def fnStatusDoneChainsReadyWrong : ChangeSpec := { name := "fnStatusDoneChainsReady", fn := fun _ => fun
  | [d] => { results := [.lit (.bool false)], args := [d] }
  | _ => none }
def FnStatusDoneChainsReadyWrongFalsely : Prop := fnStatusDoneChainsReadyRow.holds Try.pinned (OpenSpec.ofChange fnStatusDoneChainsReadyWrong)

end Rows
end Go.Proofs.Qxb6615588a
