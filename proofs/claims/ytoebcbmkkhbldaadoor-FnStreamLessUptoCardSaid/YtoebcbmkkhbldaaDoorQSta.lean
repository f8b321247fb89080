/- Stands, Places. -/
import Derived.Test.YtoebcbmkkhbldaaDoorQLwTu
import Derived.Test.YtoebcbmkkhbldaaDoorQLks
set_option linter.unusedVariables false
namespace Go.Proofs.YtoebcbmkkhbldaaDoor
open Go.RowKit Go.Mem Sais
set_option maxRecDepth 100000

theorem occ_extract {d s : ByteArray} {i : Nat} (h : i + s.size ≤ d.size) : ((d.extract i (i + s.size)).toList == s.toList) = decide (occ d s i) := by
  rw [Bool.eq_iff_iff, beq_iff_eq, decide_eq_true_eq, toList_inj]
  have z := size_extract' (s := d) (a := i) h
  constructor
  · intro e
    refine ⟨h, fun j hj => ?_⟩
    have := chr_extract d i (i + s.size) j (by omega) h
    rw [← this, e]
  · rintro ⟨_, h2⟩
    refine chr_size (by rw [z]; omega) fun j hj => ?_
    rw [z] at hj
    rw [chr_extract _ _ _ _ (by omega) h]; exact h2 j (by omega)
/-- A list of ints that was made. -/
def MkPost (l : List Int) (w : World) (e : Ending) (w' : World) : Prop := ∃ v, e = .returned v ∧ IL l w' v ∧ Grew w w'
def occB (d s : ByteArray) (i : Nat) : Bool := decide (occ d s i)
end Go.Proofs.YtoebcbmkkhbldaaDoor
