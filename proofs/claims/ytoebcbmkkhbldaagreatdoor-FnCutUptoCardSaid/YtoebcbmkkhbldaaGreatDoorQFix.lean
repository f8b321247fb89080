/- What the row's list gives of the error variables. -/
import Derived.Test.YtoebcbmkkhbldaaGreatDoorQFie
import Derived.Test.YtoebcbmkkhbldaaGreatDoorQCt1
import Derived.LaidLaws
set_option linter.unusedVariables false
namespace Go.Proofs.YtoebcbmkkhbldaaGreatDoor.fin
open Go.ChangeShapes Go.WideShapes Go.ChangeAt Go.RowKit Go.Mem

theorem gEOF : Tryz.prog.globalNamed "io.EOF" = some 3 := by kernel_rfl
theorem gEOFType : (Tryz.prog.globals[3]?).map (·.type) = some 52 := by kernel_rfl
theorem gUnx : Tryz.prog.globalNamed "io.ErrUnexpectedEOF" = some 4 := by kernel_rfl
theorem gUnxType : (Tryz.prog.globals[4]?).map (·.type) = some 52 := by kernel_rfl
theorem cellsErr : Tryz.prog.cellsOf 163 = 1 := by kernel_rfl
theorem cellsStr1 : Tryz.prog.cellsOf 9 = 1 := by kernel_rfl
theorem star : "*" ++ "errors.errorString" = "*errors.errorString" := by decide
theorem rowErr (u : TypeId) (h : Tryz.prog.typeName? 3 u = some "*errors.errorString") : u = 144 :=
  typeName_ptr_named (nm := "errors.errorString") (by rw [star]; kernel_rfl) (by kernel_rfl) (by decide) u (by rw [star]; exact h)
theorem errs {W : World} (h : laidMet Tryz.prog laidAll W) : Errs W.heap.size W := by
  obtain ⟨a0, s0, hv0, _⟩ := laid_sentinel (laidMet.tail h) gEOF gEOFType Tryz.underlying52 rowErr Tryz.underlying144 Tryz.underlying163 rfl rfl Tryz.underlying9 cellsErr cellsStr1
  obtain ⟨a1, s1, hv1, _⟩ := laid_sentinel (laidMet.tail (laidMet.tail h)) gUnx gUnxType Tryz.underlying52 rowErr Tryz.underlying144 Tryz.underlying163 rfl rfl Tryz.underlying9 cellsErr cellsStr1
  have c0 : W.cell? ⟨3, 0, none⟩ = some (.iface 144 (.pointer (some a0))) := World.var?_cell gEOF hv0 0
  have c1 : W.cell? ⟨4, 0, none⟩ = some (.iface 144 (.pointer (some a1))) := World.var?_cell gUnx hv1 0
  exact ⟨⟨_, ⟨a0, rfl⟩, c0⟩, ⟨_, ⟨a1, rfl⟩, c1⟩, World.block_lt_of_cell? W _ c0, World.block_lt_of_cell? W _ c1⟩
end Go.Proofs.YtoebcbmkkhbldaaGreatDoor.fin
