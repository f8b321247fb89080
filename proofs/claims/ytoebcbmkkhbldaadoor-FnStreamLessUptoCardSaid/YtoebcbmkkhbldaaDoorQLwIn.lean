/- FnInside. -/
import Derived.Test.YtoebcbmkkhbldaaDoorA7
set_option linter.unusedVariables false
namespace Go.Proofs.YtoebcbmkkhbldaaDoor
open Go.RowKit Go.Mem Sais
set_option maxRecDepth 100000

theorem toList_inj {a b : ByteArray} : a.toList = b.toList ↔ a = b := by
  constructor
  · intro e
    rw [ByteArray.toList_eq, ByteArray.toList_eq] at e
    exact ByteArray.ext (Array.ext' e)
  · rintro rfl; rfl
theorem toList_nil {a : ByteArray} : a.toList = [] ↔ a.size = 0 := by
  rw [ByteArray.toList_eq]
  constructor
  · intro e
    have := congrArg List.length e
    simpa using this
  · intro e
    refine List.length_eq_zero_iff.1 ?_
    rw [Array.length_toList]; exact e
theorem places_nil (s : ByteArray) {t : ByteArray} (h : t.size = 0) : places s t = [] := by unfold places; rw [if_pos h]
end Go.Proofs.YtoebcbmkkhbldaaDoor
