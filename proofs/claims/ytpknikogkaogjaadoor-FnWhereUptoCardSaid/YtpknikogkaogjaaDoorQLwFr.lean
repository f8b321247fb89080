/- FnFree. -/
import Derived.Test.YtpknikogkaogjaaDoorQSta
import Derived.Test.YtpknikogkaogjaaDoorQLwRe
set_option linter.unusedVariables false
namespace Go.Proofs.YtpknikogkaogjaaDoor
open Go.RowKit Go.Mem Sais
set_option maxRecDepth 100000

/-- One byte. -/
def one (c : Nat) : ByteArray := ⟨(bts (fun _ => c) 1).toArray⟩
theorem one_size (c : Nat) : (one c).size = 1 := rfl
theorem one_chr {c : Nat} (h : c < 256) : chr (one c) 0 = c := by
  show (UInt8.ofNat c).toNat = c
  rw [UInt8.toNat_ofNat_of_lt' (by simpa using h)]
def frL (a b : ByteArray) (k : Nat) : List ByteArray := (List.range k).map fun c => a ++ one c ++ b
theorem frL_succ (a b : ByteArray) (k : Nat) : frL a b (k + 1) = frL a b k ++ [a ++ one k ++ b] := by
  unfold frL; rw [List.range_succ, List.map_append]; rfl
theorem frL_len (a b : ByteArray) (k : Nat) : (frL a b k).length = k := by unfold frL; simp
theorem frL_get (a b : ByteArray) (n k : Nat) (h : k < (frL a b n).length) : (frL a b n)[k] = a ++ one k ++ b := by simp [frL]
def FrRel (a b : ByteArray) (w : World) (ov iv : Value) (wr : World) : Prop := ∃ k : Nat, k ≤ 256 ∧ iv = .int .i64 k ∧ Hid (OV 9 w.heap.size (sv (frL a b k)) wr ov) ∧ Hid (Grew w wr)
/-- The relation of a loop that joins lists of places. -/
def JoRel (d : ByteArray) (T : Nat → ByteArray) (n : Nat) (w : World) (ov iv : Value) (wr : World) : Prop := ∃ (k : Nat) (al : List Int), k ≤ n ∧ iv = .int .i64 k ∧ Hid (al.Perm ((List.range k).flatMap fun c => ints (places d (T c)))) ∧ Hid (OL w.heap.size al wr ov) ∧ Hid (Grew w wr)
theorem join_succ {d : ByteArray} {T : Nat → ByteArray} {k : Nat} {al l : List Int} (h : al.Perm ((List.range k).flatMap fun c => ints (places d (T c)))) (hl : l.Perm (ints (places d (T k)))) : (al ++ l).Perm ((List.range (k + 1)).flatMap fun c => ints (places d (T c))) := by
  rw [List.range_succ, List.flatMap_append]
  refine h.append ?_
  simpa using hl
theorem join_len (d : ByteArray) (T : Nat → ByteArray) : ∀ k, ((List.range k).flatMap fun c => ints (places d (T c))).length ≤ k * d.size
  | 0 => by simp
  | k + 1 => by
    rw [List.range_succ, List.flatMap_append, List.length_append]
    have := join_len d T k
    have h2 : (List.flatMap (fun c => ints (places d (T c))) [k]).length ≤ d.size := by
      simp; rw [ints_length]; exact places_len _ _
    rw [Nat.succ_mul]; omega
def freeQ (d a b : ByteArray) (i : Nat) : Bool := decide (freeB d a b i)
theorem freeQ_yes {d a b : ByteArray} {i : Nat} (h1 : occ d a i) (h2 : i + a.size < d.size) (h3 : occ d b (i + a.size + 1)) : freeQ d a b i = true := decide_eq_true ⟨h1, h2, h3⟩
theorem freeQ_no {d a b : ByteArray} {i : Nat} (h : ¬ (occ d a i ∧ i + a.size < d.size ∧ occ d b (i + a.size + 1))) : freeQ d a b i = false := decide_eq_false h
theorem free_srt {d a b : ByteArray} {al : List Int} (h : al.Perm ((List.range 256).flatMap fun c => ints (places d (a ++ one c ++ b)))) : srt al = ints ((List.range d.size).filter (freeQ d a b)) := by
  refine srt_eq (List.Perm.trans ?_ h.symm) (ints_le (List.pairwise_lt_range.filter _))
  rw [← ints_flatMap]
  exact (ints_perm (free_law (m := one) fun c hc => ⟨one_size c, one_chr hc⟩)).symm
end Go.Proofs.YtpknikogkaogjaaDoor
