/- Looking up in an index that was read. -/
import Derived.Test.YtoebcbmkkhbldaaDoorQLkc
import Derived.Test.YtoebcbmkkhbldaaDoorA7
set_option linter.unusedVariables false
namespace Go.Proofs.YtoebcbmkkhbldaaDoor
open Go.RowKit Go.Mem Sais
set_option maxRecDepth 100000

theorem lookup_read (s t : ByteArray) (xb tb tx tc sb so c : Nat) (sa : Nat → Int) (dv : Value) (w : World) (H : Ix w xb (chr s) s.size dv tb tx tc sb so c sa) (ht : t.size ≤ 1073741824) :
    Calls Tryd.prog 8 #[.pointer (some ⟨xb, 0, none⟩), strV w t, .int .i64 (-1)] (strW w t) (LkPost s t (strW w t)) := by
  refine (lookup_ix_c c xb s.size tb tx tc sb so t.size (chr s) (chr t) sa dv (strV w t) (-1) (strW w t) (H.grew (strW_grew w t)) (fun j _ => chr_lt t j) (strV_bytes w t) ⟨_, _, rfl⟩ ht (by omega) (by omega)).mono ?_
  rintro e w' ⟨rb, he, hrb, hH, hK⟩
  have hp := found_perm (t := t) H.isa
  refine ⟨_, _, he, ?_, hp, hK⟩
  generalize lim (many2 (chr s) s.size sa (chr t) t.size) t.size (-1) = k at *
  unfold listV
  by_cases hc : k = 0
  · subst hc; exact IL.nil _ _
  · rw [if_neg hc]
    have h := IL.mk (l := (List.range k).map fun j => sa (from1 (chr s) s.size sa (chr t) t.size + j)) (w := w') (b := rb) (o := 0) (c := k) (by simp) (fun j hj => by
      simp at hj; rw [(hH j hj).1]; simp)
    simpa using h
theorem lk_len {s t : ByteArray} {l : List Int} (h : l.Perm (ints (places s t))) : l.length ≤ s.size := by
  have h1 := h.length_eq
  have h2 := places_len s t
  rw [show (ints (places s t)).length = (places s t).length by simp [ints]] at h1
  omega
/-- append([]int(nil), l...) -/
theorem append_copy {w : World} {l : List Int} {v : Value} (h : IL l w v) (hl : l.length ≤ 1073741824) : ∃ v' w', (Builtin.append_ #[26, 26] 26 #[.slice none 0 0, v]).run Tryd.prog w = .ok v' w' ∧ OL w.heap.size l w' v' ∧ Grew w w' := by
  have := append_ints (l := []) 26 (Kept.refl _ w) (OL.nil _ _) h (by simp; omega)
  simpa using this
end Go.Proofs.YtoebcbmkkhbldaaDoor
