/- FnMost. -/
import Derived.Test.YtoebcbmkkhbldaaGreatDoorQLwTh
import Derived.Test.YtoebcbmkkhbldaaGreatDoorQLks
set_option linter.unusedVariables false
namespace Go.Proofs.YtoebcbmkkhbldaaGreatDoor
open Go.RowKit Go.Mem Sais
set_option maxRecDepth 100000

end Go.Proofs.YtoebcbmkkhbldaaGreatDoor
