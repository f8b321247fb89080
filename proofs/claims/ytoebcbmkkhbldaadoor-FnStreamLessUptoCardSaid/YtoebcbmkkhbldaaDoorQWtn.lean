/- impl.Written. -/
import Derived.Test.YtoebcbmkkhbldaaDoorQRdr
set_option linter.unusedVariables false
namespace Go.Proofs.YtoebcbmkkhbldaaDoor
open Go.RowKit Go.Mem Sais Go.Lib Go.Wire
set_option maxRecDepth 100000

theorem bts_chr (s : ByteArray) : bts (chr s) s.size = s.data.toList := by
  apply List.ext_getElem
  · simp [bts]
  · intro j h1 h2
    have h3 : j < s.data.size := by simpa using h2
    simp only [bts, chr, List.getElem_map, List.getElem_range, Array.getElem?_eq_getElem h3, Option.getD_some]
    simp
/-- What is written for s. -/
def wireS (s : ByteArray) (sa : Nat → Int) : List UInt8 := wire (bts (chr s) s.size) (numsOf sa s.size)
theorem wireS_ne (s : ByteArray) (sa : Nat → Int) (hs : s.size ≤ 1073741824) : wireS s sa ≠ [] := by
  intro h
  have h1 := congrArg List.length h
  unfold wireS wire at h1
  rw [List.length_append, List.length_append, bts_len, first_len hs] at h1
  simp at h1
theorem wireS_len (s : ByteArray) (sa : Nat → Int) (hs : s.size ≤ 1073741824) (hI : IsSA (chr s) s.size sa) : (wireS s sa).length ≤ 10 + 16 * s.size ∧ 10 ≤ (wireS s sa).length := by
  have := wire_len (bts (chr s) s.size) (numsOf sa s.size) (by rw [bts_len]; exact hs) (numsOf_lt fun j hj => by have := hI.lt hj; omega)
  rw [bts_len, numsOf_len] at this
  unfold wireS
  omega
def WnPost (s : ByteArray) (w : World) (e : Ending) (w' : World) : Prop := ∃ sa, IsSA (chr s) s.size sa ∧ e = .returned (.string ⟨(wireS s sa).toArray⟩) ∧ Grew w w'
end Go.Proofs.YtoebcbmkkhbldaaDoor
