/- FnMost. -/
import Derived.Test.YtoebcbmkkhbldaaDoorQLwTh
import Derived.Test.YtoebcbmkkhbldaaDoorQLks
set_option linter.unusedVariables false
namespace Go.Proofs.YtoebcbmkkhbldaaDoor
open Go.RowKit Go.Mem Sais
set_option maxRecDepth 100000

end Go.Proofs.YtoebcbmkkhbldaaDoor
