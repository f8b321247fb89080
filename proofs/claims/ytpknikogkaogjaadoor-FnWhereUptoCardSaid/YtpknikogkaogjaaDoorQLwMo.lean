/- FnMost. -/
import Derived.Test.YtpknikogkaogjaaDoorQLwTh
import Derived.Test.YtpknikogkaogjaaDoorQLks
set_option linter.unusedVariables false
namespace Go.Proofs.YtpknikogkaogjaaDoor
open Go.RowKit Go.Mem Sais
set_option maxRecDepth 100000

end Go.Proofs.YtpknikogkaogjaaDoor
