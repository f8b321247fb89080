/- Repeated, FnRepeated. -/
import Derived.Test.YtpknikogkaogjaaDoorQLwAl
set_option linter.unusedVariables false
namespace Go.Proofs.YtpknikogkaogjaaDoor
open Go.RowKit Go.Mem Sais
set_option maxRecDepth 100000

def ReRel (d : ByteArray) (w : World) (mv iv : Value) (wr : World) : Prop := ∃ i : Nat, i ≤ d.size ∧ iv = .int .i64 i ∧ mv = .int .i64 (mx (fun i => mx (repK d i) (d.size - i)) i : Nat) ∧ Hid (Grew w wr)
theorem repK_le (d : ByteArray) (i k : Nat) : mx (repK d i) k ≤ k := mx_le fun j hj => by unfold repK; split <;> omega
end Go.Proofs.YtpknikogkaogjaaDoor
