import Derived.Test.Qxb6615962aFmtBuf
import Derived.Stop.FmtTextWidths
namespace Go.Proofs.Qxb6615962aFmt
open Go.Extern.Stop Go.Stop Go.Extern

/-- Four digits, by fmt's own padding and by two pairs: every year. -/
theorem zeros_all : ∀ a b : Fin 100, FmtText.zeros 4 ((100 * a.val + b.val : Nat) : Int) = four (100 * a.val + b.val) := by decide +kernel
theorem zeros_four (y : Nat) (hy : y < 10000) : FmtText.zeros 4 (y : Int) = four y := by
  have h := zeros_all ⟨y / 100, by omega⟩ ⟨y % 100, by omega⟩
  rwa [show 100 * (y / 100) + y % 100 = y by omega] at h

end Go.Proofs.Qxb6615962aFmt
