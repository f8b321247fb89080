/- has[byte], FnSplit. -/
import Derived.Test.YtoebcbmkkhbldaaDoorQLwPu
set_option linter.unusedVariables false
namespace Go.Proofs.YtoebcbmkkhbldaaDoor
open Go.RowKit Go.Mem Sais
set_option maxRecDepth 100000

def hasB (s : ByteArray) (c : Nat) : Bool := (List.range s.size).any fun j => chr s j == c
theorem hasB_iff {s : ByteArray} {c : Nat} : hasB s c = true ↔ ∃ j, j < s.size ∧ chr s j = c := by
  unfold hasB
  rw [List.any_eq_true]
  constructor
  · rintro ⟨j, h1, h2⟩; exact ⟨j, List.mem_range.1 h1, by simpa using h2⟩
  · rintro ⟨j, h1, h2⟩; exact ⟨j, List.mem_range.2 h1, by simpa using h2⟩
theorem ahead_le (d s : ByteArray) (f : Nat) : ahead d s f ≤ d.size := Nat.le_trans (List.length_filter_le _ _) (places_len d s)
def SpRel (d s : ByteArray) (w : World) (nv fv iv : Value) (wr : World) : Prop := ∃ k f : Nat, k ≤ d.size ∧ f ≤ k ∧ iv = .int .i64 k ∧ fv = .int .i64 f ∧ nv = .int .i64 (ahead d s f : Nat) ∧ Hid (Grew w wr)
end Go.Proofs.YtoebcbmkkhbldaaDoor
