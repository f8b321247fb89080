/- What Write writes, as a plain list of bytes, and that its parts are read again. No program in sight. -/
import Derived.Lib.Varint
import Derived.Lib.VarintDec
set_option linter.unusedVariables false
namespace Go.Wire
open Go.Lib

theorem dec_from : ∀ (k x i acc : Nat) (r : List UInt8), x < 128 ^ (k + 1) → i + k ≤ 8 → uvarintFrom i acc (uvarint x ++ r) = (acc + x * 2 ^ (7 * i), (i : Int) + ((uvarint x).length : Int))
  | 0, x, i, acc, r, hx, hi => by
    have hx' : x < 128 := by simpa using hx
    rw [uvarint_small hx']
    have e : x.toUInt8.toNat = x := by simp [Nat.toUInt8]; omega
    simp only [List.singleton_append, uvarintFrom, e]
    rw [if_neg (by omega), if_pos hx', if_neg (by omega)]
    simp
  | k + 1, x, i, acc, r, hx, hi => by
    by_cases hs : x < 128
    · rw [uvarint_small hs]
      have e : x.toUInt8.toNat = x := by simp [Nat.toUInt8]; omega
      simp only [List.singleton_append, uvarintFrom, e]
      rw [if_neg (by omega), if_pos hs, if_neg (by omega)]
      simp
    · rw [uvarint_big (by omega)]
      have e : (x % 128 + 128).toUInt8.toNat = x % 128 + 128 := by simp [Nat.toUInt8]; omega
      simp only [List.cons_append, uvarintFrom, e]
      rw [if_neg (by omega), if_neg (by omega), dec_from k (x / 128) (i + 1) _ r (by rw [Nat.pow_succ] at hx; exact Nat.div_lt_of_lt_mul (by rw [Nat.mul_comm]; exact hx)) (by omega)]
      have e2 : (x % 128 + 128) % 128 = x % 128 := by omega
      have e3 : 2 ^ (7 * (i + 1)) = 128 * 2 ^ (7 * i) := by rw [Nat.mul_add, Nat.pow_add, Nat.mul_comm]
      rw [e2, e3]
      refine Prod.ext ?_ ?_
      · show acc + x % 128 * 2 ^ (7 * i) + x / 128 * (128 * 2 ^ (7 * i)) = acc + x * 2 ^ (7 * i)
        rw [← Nat.mul_assoc, Nat.add_assoc, ← Nat.add_mul]
        congr 2
        omega
      · show ((i + 1 : Nat) : Int) + ((uvarint (x / 128)).length : Int) = (i : Int) + ((List.length ((x % 128 + 128).toUInt8 :: uvarint (x / 128)) : Nat) : Int)
        rw [List.length_cons]; omega
theorem dec_uv (x : Nat) (r : List UInt8) (hx : x < 4294967296) : uvarintDec (uvarint x ++ r) = (x, ((uvarint x).length : Int)) := by
  unfold uvarintDec
  rw [dec_from 4 x 0 0 r (by have : (128 : Nat) ^ (4 + 1) = 34359738368 := by decide
                             omega) (by omega)]
  simp
theorem zz (n : Nat) : zigzag (n : Int) = 2 * n := by unfold zigzag; rw [if_pos (by omega)]; omega
theorem dec_v (n : Nat) (r : List UInt8) (hx : n < 2147483648) : (varintDec (uvarint (zigzag (n : Int)) ++ r)).1 = (n : Int) := by
  unfold varintDec
  rw [zz, dec_uv _ r (by omega)]
  simp [unzigzag]
theorem p5 : (128 : Nat) ^ (4 + 1) = 34359738368 := by decide
theorem uv_le {x : Nat} (h : x < 4294967296) : (uvarint x).length ≤ 5 := uvarint_length 4 x (by rw [p5]; omega)

/-- h with l written over its beginning. -/
def over (h l : List UInt8) : List UInt8 := l ++ h.drop l.length
theorem over_len {h l : List UInt8} (hl : l.length ≤ h.length) : (over h l).length = h.length := by unfold over; simp; omega
/-- How many numbers fit, from place p on. -/
def fit : Nat → List Nat → Nat
  | _, [] => 0
  | p, x :: l => if p + 10 ≤ 16384 then fit (p + (uvarint x).length) l + 1 else 0
theorem fit_le : ∀ (l : List Nat) (p : Nat), fit p l ≤ l.length
  | [], _ => by simp [fit]
  | x :: l, p => by
    unfold fit; split
    · have := fit_le l (p + (uvarint x).length); simp; omega
    · simp
theorem fit_pos {l : List Nat} (h : l ≠ []) : 1 ≤ fit 10 l := by
  cases l with
  | nil => exact (h rfl).elim
  | cons x l => unfold fit; rw [if_pos (by omega)]; omega
/-- The numbers, one behind the other. -/
def enc (l : List Nat) : List UInt8 := l.flatMap uvarint
theorem enc_nil : enc [] = [] := rfl
theorem enc_cons (x : Nat) (l : List Nat) : enc (x :: l) = uvarint x ++ enc l := rfl
theorem enc_append (l m : List Nat) : enc (l ++ m) = enc l ++ enc m := List.flatMap_append
theorem enc_snoc (l : List Nat) (x : Nat) : enc (l ++ [x]) = enc l ++ uvarint x := by rw [enc_append, enc_cons, enc_nil, List.append_nil]
/-- Where the writing stops: behind the first k numbers it goes on just if one more fits. -/
theorem fit_step : ∀ (l : List Nat) (p k : Nat) (hk : k ≤ fit p l) , (k < l.length ∧ p + (enc (l.take k)).length + 10 ≤ 16384) ↔ k < fit p l
  | [], p, k, hk => by simp [fit] at *
  | x :: l, p, 0, hk => by
    unfold fit
    simp [enc_nil]
    split <;> simp <;> omega
  | x :: l, p, k + 1, hk => by
    unfold fit at hk ⊢
    split at hk
    · rename_i h
      rw [if_pos h]
      have := fit_step l (p + (uvarint x).length) k (by omega)
      rw [List.take_succ_cons, enc_cons, List.length_append, List.length_cons]
      constructor
      · intro ⟨h1, h2⟩
        have := this.1 ⟨by omega, by omega⟩
        omega
      · intro h1
        have := this.2 (by omega)
        exact ⟨by omega, by omega⟩
    · omega
theorem fit_size (l : List Nat) (hl : ∀ x ∈ l, x < 4294967296) : ∀ (p k : Nat), k ≤ fit p l → p ≤ 16384 → p + (enc (l.take k)).length ≤ 16384 := by
  intro p k hk hp
  cases k with
  | zero => simpa [enc_nil] using hp
  | succ k =>
    have h1 := (fit_step l p k (by omega)).2 (by omega)
    have h2 : k < l.length := h1.1
    rw [List.take_succ_eq_append_getElem h2, enc_snoc, List.length_append]
    have := uv_le (hl _ (List.getElem_mem h2))
    omega
/-- The header of the next piece. -/
def head (h : List UInt8) (l : List Nat) : List UInt8 := over h (uvarint (2 * (10 + (enc (l.take (fit 10 l))).length)))
def chunks (h : List UInt8) (l : List Nat) : List UInt8 :=
  if hl : l = [] then [] else head h l ++ enc (l.take (fit 10 l)) ++ chunks (head h l) (l.drop (fit 10 l))
termination_by l.length
decreasing_by
  have := fit_pos hl
  have : 0 < l.length := by cases l; exact (hl rfl).elim; simp
  simp; omega
theorem chunks_nil (h : List UInt8) : chunks h [] = [] := by rw [chunks]; simp
theorem chunks_more (h : List UInt8) {l : List Nat} (hl : l ≠ []) : chunks h l = head h l ++ enc (l.take (fit 10 l)) ++ chunks (head h l) (l.drop (fit 10 l)) := by
  rw [chunks, dif_neg hl]
/-- The header of the whole. -/
def first (n : Nat) : List UInt8 := over (List.replicate 10 0) (uvarint (2 * n))
/-- What is written for data T with the suffix array l. -/
def wire (T : List UInt8) (l : List Nat) : List UInt8 := first T.length ++ T ++ chunks (first T.length) l
theorem enc_len (l : List Nat) (hl : ∀ x ∈ l, x < 4294967296) : (enc l).length ≤ 5 * l.length := by
  induction l with
  | nil => simp [enc_nil]
  | cons x l ih =>
    rw [enc_cons, List.length_append, List.length_cons]
    have := ih fun y hy => hl y (by simp [hy])
    have := uv_le (hl x (by simp))
    omega
theorem head_len {h : List UInt8} (l : List Nat) (hh : h.length = 10) (hl : ∀ x ∈ l, x < 4294967296) : (head h l).length = 10 := by
  unfold head
  rw [over_len, hh]
  have := fit_size l hl 10 (fit 10 l) (Nat.le_refl _) (by omega)
  have := uv_le (x := 2 * (10 + (enc (l.take (fit 10 l))).length)) (by omega)
  omega
theorem first_len {n : Nat} (hn : n ≤ 1073741824) : (first n).length = 10 := by
  unfold first
  rw [over_len]; simp
  have := uv_le (x := 2 * n) (by omega)
  simp; omega
theorem chunks_len (l : List Nat) (h : List UInt8) (hh : h.length = 10) (hl : ∀ x ∈ l, x < 4294967296) : (chunks h l).length ≤ 15 * l.length := by
  generalize hn : l.length = n
  induction n using Nat.strongRecOn generalizing l h with
  | ind n ih =>
    by_cases h0 : l = []
    · subst h0; simp [chunks_nil]
    · rw [chunks_more h h0]
      have hp := fit_pos h0
      have hf := fit_le l 10
      have h1 := ih (l.drop (fit 10 l)).length (by simp; omega) (l.drop (fit 10 l)) (head h l) (head_len l hh hl) (fun x hx => hl x (List.mem_of_mem_drop hx)) rfl
      have h2 := enc_len (l.take (fit 10 l)) (fun x hx => hl x (List.mem_of_mem_take hx))
      rw [List.length_take, Nat.min_eq_left hf] at h2
      rw [List.length_drop] at h1
      rw [List.length_append, List.length_append, head_len l hh hl]
      omega
theorem wire_len (T : List UInt8) (l : List Nat) (hT : T.length ≤ 1073741824) (hl : ∀ x ∈ l, x < 4294967296) : (wire T l).length ≤ 10 + T.length + 15 * l.length ∧ 10 + T.length ≤ (wire T l).length := by
  unfold wire
  rw [List.length_append, List.length_append, first_len hT]
  have := chunks_len l (first T.length) (first_len hT) hl
  omega
end Go.Wire
