/- FnAlone. -/
import Derived.Test.YtpknikogkaogjaaDoorQLwBe
set_option linter.unusedVariables false
namespace Go.Proofs.YtpknikogkaogjaaDoor
open Go.RowKit Go.Mem Sais
set_option maxRecDepth 100000

def leastN (m k : Nat) : Nat := if m < k then m + 1 else 0
theorem leastN_end {d : ByteArray} {i : Nat} : leastN (othN d i d.size) (d.size - i) = aloneN d i := by
  have := othN_le d i d.size
  unfold leastN aloneN
  split <;> split <;> omega
end Go.Proofs.YtpknikogkaogjaaDoor
