import Derived.Test.Qxb6615962aFmtRows
import Derived.Deep.DeepWitnessRowRef
import Derived.Deep.DeepWitnessRef
import Derived.Lib.LaidIn
import Derived.ProofKit
import Derived.Stop.JoinedAt
namespace Go.Proofs.Qxb6615962aFmt

/-! ### A start that fits: the four listed variables hold what the program's text lays -/

def dataCells : DataW Unit → Array Value
  | .agg l => (l.map fun | .lit (.int k z) => Value.int k z | _ => .bool false).toArray
  | .slice l _ => (l.map fun | .lit (.string s) => Value.string ⟨s.toArray⟩ | _ => .bool false).toArray
  | _ => #[]

noncomputable def laidWorld (os : Os) : World :=
  let N := (World.settled Tryf.prog os).heap.size
  let w0 := World.holding Tryf.prog os ⟨#[.cells (dataCells Rows.laid_time_longDayNames) 9], #[], []⟩
  let put (h : Array Obj) (g : Nat) (cs : Array Value) : Array Obj := h.modify g fun
    | .cells _ t frozen => .cells cs t frozen
    | o => o
  let h0 := put w0.heap 0 (dataCells Rows.laid_math_bits_deBruijn64tab)
  let h1 := put h0 1 #[.slice (some ⟨N, 0, none⟩) 7 7]
  let h2 := put h1 2 (dataCells Rows.laid_internal_strconv_uint64pow10)
  let h3 := put h2 4 (dataCells Rows.laid_math_bits_deBruijn32tab)
  { w0 with heap := h3 }

noncomputable abbrev N0 : Nat := (World.settled Tryf.prog default).heap.size
def wArgs : Array Value := #[.agg #[.int .u64 0, .int .u64 0, .int .u64 0, .int .u64 0, .int .u64 0, .int .u64 0, .int .u64 0, .int .u64 0, .int .u64 0, .int .u64 0, .int .u64 0, .int .u64 0], .string ⟨#[]⟩, .int .u64 0, .slice none 0 0, .int .u64 0]

set_option maxRecDepth 1000000 in
theorem laid_met (os : Os) (args : Array Value) : laidMet Tryf.prog Rows.fnItemTextMatchesSpecRow.laid ((laidWorld os).forCall (fun _ _ => 0) ⟨#[], args, []⟩).memory :=
  (LaidIn.of_run [4, 0, 2, 1, N0] 10 (by kernel_rfl) (by kernel_rfl) (by kernel_rfl) (by kernel_rfl)).met

set_option maxRecDepth 1000000 in
theorem witness_row (os : Os) {H : Type} (enc : TypeId × Value → H) :
    (OpenSpec.ofChange Rows.fnItemTextMatchesSpecSpec).preRow enc Tryf.prog Tryf.f3 Rows.fnItemTextMatchesSpecRow.domain false Rows.fnItemTextMatchesSpecRow.laid ((laidWorld os).forCall (fun _ _ => 0) ⟨#[], wArgs, []⟩).memory wArgs :=
  OpenSpec.preRow_of_B rfl 8 (by kernel_rfl) (by kernel_rfl) (laid_met os _)

set_option maxRecDepth 1000000 in
theorem witness (os : Os) {H : Type} (enc : TypeId × Value → H) (F : Stop.Interp) :
    ∃ (w : World) (tape : Tape) (i : Input), w.os = os ∧ (w.forCall tape i).Shaped Tryf.checked.prog ∧ i.vars = [] ∧ Input.okWide Tryf.checked.prog (w.forCall tape i) .any w.heap.size 3 i ∧
      (OpenSpec.ofChange Rows.fnItemTextMatchesSpecSpec).preRow enc Tryf.checked.prog Tryf.f3 Rows.fnItemTextMatchesSpecRow.domain false Rows.fnItemTextMatchesSpecRow.laid (w.forCall tape i).memory i.args ∧ ({} : Assume).holds Tryf.checked.prog (lone (Frame.enter Tryf.checked.prog 3 i.args .normal) [] (w.forCall tape i)) ∧ F.answers tape :=
  OpenSpec.witness_stopped_atRef (enc := enc) (C := Tryf.checked) false (laidWorld os) wArgs rfl (by kernel_rfl) (by kernel_rfl) (by kernel_rfl) (witness_row os enc) F
end Go.Proofs.Qxb6615962aFmt
