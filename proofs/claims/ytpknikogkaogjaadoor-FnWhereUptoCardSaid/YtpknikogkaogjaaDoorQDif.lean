/- Different. -/
import Derived.Test.YtpknikogkaogjaaDoorQLwFr
set_option linter.unusedVariables false
namespace Go.Proofs.YtpknikogkaogjaaDoor
open Go.RowKit Go.Mem Sais
set_option maxRecDepth 100000

def diffB (d : ByteArray) (L i : Nat) : Bool := decide ((places d (txt d L i)).head? = some i)
def difL (d : ByteArray) (L k : Nat) : List ByteArray := ((List.range k).filter (diffB d L)).map (txt d L)
theorem difL_yes {d : ByteArray} {L k : Nat} (h : diffB d L k = true) : difL d L (k + 1) = difL d L k ++ [txt d L k] := by
  unfold difL; rw [List.range_succ, List.filter_append, List.map_append]; simp [h]
theorem difL_no {d : ByteArray} {L k : Nat} (h : diffB d L k = false) : difL d L (k + 1) = difL d L k := by
  unfold difL; rw [List.range_succ, List.filter_append, List.map_append]; simp [h]
theorem difL_len (d : ByteArray) (L k : Nat) : (difL d L k).length ≤ k := by
  unfold difL; rw [List.length_map]; exact Nat.le_trans (List.length_filter_le _ _) (by simp)
def DiRel (d : ByteArray) (L : Nat) (w : World) (ov iv : Value) (wr : World) : Prop := ∃ k : Nat, k ≤ d.size - L + 1 ∧ iv = .int .i64 k ∧ Hid (OV 9 w.heap.size (sv (difL d L k)) wr ov) ∧ Hid (Grew w wr)
theorem head_ints {d : ByteArray} {L k : Nat} (hL : 0 < L) (hk : k + L ≤ d.size) : ∃ p rest, places d (txt d L k) = p :: rest ∧ p ≤ d.size := by
  have h1 : k ∈ places d (txt d L k) := (mem_txt hL hk).2 ⟨hk, rfl⟩
  cases h : places d (txt d L k) with
  | nil => rw [h] at h1; cases h1
  | cons p rest =>
    have : p ∈ places d (txt d L k) := by rw [h]; simp
    have := (mem_places.1 this).2.1
    exact ⟨p, rest, rfl, by omega⟩
end Go.Proofs.YtpknikogkaogjaaDoor
