/- FnPeriod, FnApart. -/
import Derived.Test.YtoebcbmkkhbldaaDoorQLwIn
set_option linter.unusedVariables false
namespace Go.Proofs.YtoebcbmkkhbldaaDoor
open Go.RowKit Go.Mem Sais
set_option maxRecDepth 100000

theorem Grew.drewEx {w w1 w2 : World} (h : Grew w w1) (h2 : ∃ q, w2 = w1.drewN q) : Grew w w2 := by
  obtain ⟨q, rfl⟩ := h2; exact h.drewN q
theorem places_big {s t : ByteArray} (h : s.size ≤ 1073741824) : (places s t).length ≤ 1073741824 := Nat.le_trans (places_len s t) h
theorem mem_perm_ints {s t : ByteArray} {l : List Int} (h : l.Perm (ints (places s t))) (i : Nat) : ((i : Int) ∈ l) ↔ i ∈ places s t := by
  rw [h.mem_iff, mem_ints]; simp
/-- Two places that follow each other. -/
theorem apart_pair {d s : ByteArray} {m : Nat} (h : m + 1 < (ints (places d s)).length) : ∃ p c : Nat, 0 < c ∧ p + c ≤ d.size ∧ (ints (places d s))[m] = (p : Int) ∧ (ints (places d s))[m + 1] = ((p + c : Nat) : Int) ∧ perB s c = true := by
  have hl : (ints (places d s)).length = (places d s).length := ints_length _
  have h1 : (ints (places d s))[m] = (((places d s)[m]'(by omega) : Nat) : Int) := by simp [ints, nint]
  have h2 : (ints (places d s))[m + 1] = (((places d s)[m + 1]'(by omega) : Nat) : Int) := by simp [ints, nint]
  have hp := (places_lt d s)
  rw [List.pairwise_iff_getElem] at hp
  have hlt := hp m (m + 1) (by omega) (by omega) (by omega)
  have o1 := (mem_places.1 (List.getElem_mem (show m < (places d s).length by omega))).2
  have o2 := (mem_places.1 (List.getElem_mem (show m + 1 < (places d s).length by omega))).2
  generalize (places d s)[m]'(by omega) = p at *
  generalize (places d s)[m + 1]'(by omega) = q at *
  refine ⟨p, q - p, by omega, by have := o2.1; omega, h1, by rw [h2, show p + (q - p) = q by omega], perB_iff.2 (per_of_occ o1 o2 (by omega))⟩
end Go.Proofs.YtoebcbmkkhbldaaDoor
