/- Reading what was written, as plain lists of bytes. No program in sight. -/
import Derived.Test.YtoebcbmkkhbldaaDoorQWire
set_option linter.unusedVariables false
namespace Go.Wire
open Go.Lib

theorem uv_pos (x : Nat) : 1 ≤ (uvarint x).length := by
  by_cases h : x < 128
  · rw [uvarint_small h]; simp
  · rw [uvarint_big (by omega)]; simp
theorem dec_over (h r : List UInt8) (n : Nat) (hn : n < 2147483648) : (varintDec (over h (uvarint (2 * n)) ++ r)).1 = (n : Int) := by
  unfold over
  rw [List.append_assoc, ← zz n]
  exact dec_v n _ hn
theorem dec_first (n : Nat) (r : List UInt8) (hn : n ≤ 1073741824) : (varintDec (first n ++ r)).1 = (n : Int) := dec_over _ _ _ (by omega)
/-- How long a piece is, its header included. -/
def psize (l : List Nat) : Nat := 10 + (enc (l.take (fit 10 l))).length
theorem psize_le (l : List Nat) (hl : ∀ x ∈ l, x < 4294967296) : 10 ≤ psize l ∧ psize l ≤ 16384 := by
  have := fit_size l hl 10 (fit 10 l) (Nat.le_refl _) (by omega)
  unfold psize; omega
theorem dec_head (h r : List UInt8) (l : List Nat) (hl : ∀ x ∈ l, x < 4294967296) : (varintDec (head h l ++ r)).1 = (psize l : Int) := by
  have := psize_le l hl
  exact dec_over _ _ _ (by unfold psize at this; omega)
theorem take_split {l : List Nat} {i k : Nat} (hi : i < k) (hk : k ≤ l.length) : l.take k = l.take i ++ (l[i] :: (l.take k).drop (i + 1)) := by
  have h1 : i < (l.take k).length := by rw [List.length_take]; omega
  have h2 := List.take_append_drop i (l.take k)
  rw [List.take_take, Nat.min_eq_left (by omega)] at h2
  rw [List.drop_eq_getElem_cons h1] at h2
  simpa using h2.symm
theorem enc_split {l : List Nat} {i k : Nat} (hi : i < k) (hk : k ≤ l.length) : enc (l.take k) = enc (l.take i) ++ (uvarint l[i] ++ enc ((l.take k).drop (i + 1))) := by
  rw [take_split hi hk, enc_append, enc_cons]
  congr 3
  rw [← take_split hi hk]
theorem enc_lt {l : List Nat} {i k : Nat} (hi : i < k) (hk : k ≤ l.length) : (enc (l.take i)).length < (enc (l.take k)).length := by
  have h := congrArg List.length (enc_split hi hk)
  rw [List.length_append, List.length_append] at h
  have := uv_pos l[i]
  omega
theorem enc_next {l : List Nat} {i : Nat} (hi : i < l.length) : (enc (l.take (i + 1))).length = (enc (l.take i)).length + (uvarint l[i]).length := by
  rw [List.take_succ_eq_append_getElem hi, enc_snoc, List.length_append]
/-- Number i of a piece. -/
theorem dec_at (l : List Nat) (hl : ∀ x ∈ l, x < 4294967296) {i k : Nat} (hi : i < k) (hk : k ≤ l.length) (H r : List UInt8) (hH : H.length = 10) :
    uvarintDec ((H ++ enc (l.take k) ++ r).drop (10 + (enc (l.take i)).length)) = (l[i], ((uvarint l[i]).length : Int)) := by
  rw [enc_split hi hk]
  rw [show H ++ (enc (l.take i) ++ (uvarint l[i] ++ enc ((l.take k).drop (i + 1)))) ++ r = (H ++ enc (l.take i)) ++ (uvarint l[i] ++ (enc ((l.take k).drop (i + 1)) ++ r)) by simp [List.append_assoc]]
  rw [List.drop_left' (by rw [List.length_append, hH])]
  exact dec_uv _ _ (hl _ (List.getElem_mem _))
/-- The parts of a stream that begins with a piece. -/
theorem piece_parts (h : List UInt8) {l : List Nat} (hl : l ≠ []) (rest : List UInt8) : chunks h l ++ rest = head h l ++ (enc (l.take (fit 10 l)) ++ (chunks (head h l) (l.drop (fit 10 l)) ++ rest)) := by
  rw [chunks_more h hl]; simp [List.append_assoc]
theorem wire_parts (T : List UInt8) (l : List Nat) (rest : List UInt8) : wire T l ++ rest = first T.length ++ (T ++ (chunks (first T.length) l ++ rest)) := by
  unfold wire; simp [List.append_assoc]
end Go.Wire
