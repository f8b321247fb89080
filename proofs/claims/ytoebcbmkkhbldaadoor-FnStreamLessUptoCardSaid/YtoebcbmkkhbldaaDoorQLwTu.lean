/- FnTurned, Times, FnTimes. -/
import Derived.Test.YtoebcbmkkhbldaaDoorQLwCh
set_option linter.unusedVariables false
namespace Go.Proofs.YtoebcbmkkhbldaaDoor
open Go.RowKit Go.Mem Sais
set_option maxRecDepth 100000

theorem range_yes {f : Nat → Bool} {k : Nat} (h : f k = true) : ints ((List.range (k + 1)).filter f) = ints ((List.range k).filter f) ++ [(k : Int)] := by
  rw [List.range_succ, List.filter_append]; simp [ints, nint, h]
theorem range_no {f : Nat → Bool} {k : Nat} (h : f k = false) : ints ((List.range (k + 1)).filter f) = ints ((List.range k).filter f) := by
  rw [List.range_succ, List.filter_append]; simp [h]
theorem range_len (f : Nat → Bool) (k : Nat) : (ints ((List.range k).filter f)).length ≤ k := by
  rw [ints_length]; exact Nat.le_trans (List.length_filter_le _ _) (by simp)
/-- The relation of a loop over numbers that gathers those that f takes. -/
def RgRel (f : Nat → Bool) (n : Nat) (w : World) (ov iv : Value) (wr : World) : Prop := ∃ k : Nat, k ≤ n ∧ iv = .int .i64 k ∧ Hid (OL w.heap.size (ints ((List.range k).filter f)) wr ov) ∧ Hid (Grew w wr)
def rotB (s : ByteArray) (r : Nat) : Bool := decide (rot s r)
theorem rotB_eq (s : ByteArray) (r : Nat) : ((s.extract r s.size ++ s.extract 0 r).toList == s.toList) = rotB s r := by
  unfold rotB
  rw [Bool.eq_iff_iff, beq_iff_eq, decide_eq_true_eq, toList_inj]
  exact Iff.rfl
end Go.Proofs.YtoebcbmkkhbldaaDoor
