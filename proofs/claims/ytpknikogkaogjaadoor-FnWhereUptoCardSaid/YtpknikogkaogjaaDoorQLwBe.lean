/- FnBefore. -/
import Derived.Test.YtpknikogkaogjaaDoorQBef
set_option linter.unusedVariables false
namespace Go.Proofs.YtpknikogkaogjaaDoor
open Go.RowKit Go.Mem Sais
set_option maxRecDepth 100000

theorem partsL_get (d : ByteArray) (i n k : Nat) (h : k < (partsL d i n).length) : (partsL d i n)[k] = part d i k := by
  simp [partsL]
theorem partsL_small {d : ByteArray} {i n : Nat} (hd : d.size ≤ 1073741824) : ∀ t ∈ partsL d i n, t.size ≤ 1073741824 := fun t ht => by
  unfold partsL at ht
  obtain ⟨k, _, rfl⟩ := List.mem_map.1 ht
  unfold part
  rw [ByteArray.size_extract]; omega
def BeRel (d : ByteArray) (i : Nat) (w : World) (mv kv : Value) (wr : World) : Prop := ∃ k : Nat, k ≤ d.size - i ∧ kv = .int .i64 k ∧ mv = .int .i64 (min k (befN d i) : Nat) ∧ Hid (Grew w wr)
/-- The head of a sorted list of places. -/
theorem head_places {d t : ByteArray} {l : List Int} (hp : l.Perm (ints (places d t))) (h0 : 0 < (places d t).length) : ∃ p rest, places d t = p :: rest ∧ srt l = (p : Int) :: ints rest := by
  rw [lookup_srt hp]
  cases h : places d t with
  | nil => rw [h] at h0; simp at h0
  | cons p rest => exact ⟨p, rest, rfl, rfl⟩
end Go.Proofs.YtpknikogkaogjaaDoor
