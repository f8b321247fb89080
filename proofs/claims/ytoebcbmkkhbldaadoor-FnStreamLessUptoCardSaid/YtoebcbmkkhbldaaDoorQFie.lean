/- The frame where the row lists error variables too. -/
import Derived.Test.YtoebcbmkkhbldaaDoorQFin
import Derived.Stop.LaidErr
set_option linter.unusedVariables false
namespace Go.Proofs.YtoebcbmkkhbldaaDoor.fin
open Go.ChangeShapes Go.WideShapes Go.ChangeAt Go.RowKit Go.Mem

def laidAll : List (String × DataW Unit) := [("io.ErrShortBuffer", Rows.laid_io_ErrShortBuffer), ("io.EOF", Rows.laid_io_EOF), ("io.ErrUnexpectedEOF", Rows.laid_io_ErrUnexpectedEOF), ("index/suffixarray.maxData32", Rows.laid_index_suffixarray_maxData32), ("index/suffixarray.errCorrupted", Rows.laid_index_suffixarray_errCorrupted)]
theorem maxIsE {W : World} (h : laidMet Tryd.prog laidAll W) : MaxIs W := maxIs (laidMet.tail (laidMet.tail (laidMet.tail h)))
noncomputable def low : Nat := (World.holding Tryd.prog default ⟨#[], #[], []⟩).heap.size
/-- A world for the witness: the settled one, the variables holding what their initialisers lay. -/
noncomputable def laidWorldE (os : Os) : World :=
  let w0 := World.holding Tryd.prog os ⟨#[.cells #[.string ⟨#[115, 104, 111, 114, 116, 32, 98, 117, 102, 102, 101, 114]⟩] 141, .cells #[.string ⟨#[69, 79, 70]⟩] 141, .cells #[.string ⟨#[117, 110, 101, 120, 112, 101, 99, 116, 101, 100, 32, 69, 79, 70]⟩] 141, .cells #[.string ⟨#[115, 117, 102, 102, 105, 120, 97, 114, 114, 97, 121, 58, 32, 100, 97, 116, 97, 32, 99, 111, 114, 114, 117, 112, 116, 101, 100]⟩] 141], #[], []⟩
  { w0 with heap := ((((w0.heap.modify 0 fun
      | .cells _ t frozen => .cells #[.int .i64 2147483647] t frozen
      | o => o).modify 2 fun
      | .cells _ t frozen => .cells #[.iface 120 (.pointer (some ⟨low, 0, none⟩))] t frozen
      | o => o).modify 3 fun
      | .cells _ t frozen => .cells #[.iface 120 (.pointer (some ⟨low + 1, 0, none⟩))] t frozen
      | o => o).modify 4 fun
      | .cells _ t frozen => .cells #[.iface 120 (.pointer (some ⟨low + 2, 0, none⟩))] t frozen
      | o => o).modify 1 fun
      | .cells _ t frozen => .cells #[.iface 120 (.pointer (some ⟨low + 3, 0, none⟩))] t frozen
      | o => o }
end Go.Proofs.YtoebcbmkkhbldaaDoor.fin
