/- Bytes in memory; a buffer that is written. -/
import Derived.Test.YtoebcbmkkhbldaaDoorA7
import Derived.Test.YtoebcbmkkhbldaaDoorQShl
import Derived.Test.YtoebcbmkkhbldaaDoorQWire
import Derived.Lib.BufferSrc
import Derived.RegionTactic
set_option linter.unusedVariables false
namespace Go.Proofs.YtoebcbmkkhbldaaDoor
open Go.RowKit Go.Mem Sais Go.Lib Go.Wire
set_option maxRecDepth 100000

def bf (l : List UInt8) (j : Nat) : Int := ((l.getD j 0).toNat : Int)
theorem bf_get {l : List UInt8} {j : Nat} (h : j < l.length) : bf l j = (l[j].toNat : Int) := by simp [bf, h]
/-- Bytes that may be written. -/
def By (w : World) (b o : Nat) (l : List UInt8) : Prop := Hold .u8 w b o l.length (bf l)
/-- Bytes that are read. -/
def Br (w : World) (b o : Nat) (l : List UInt8) : Prop := Rd .u8 w b o l.length (bf l)
theorem By.br {w : World} {b o : Nat} {l : List UInt8} (h : By w b o l) : Br w b o l := Hold.rd h
theorem By.kept {S : Nat → Nat → Prop} {w w' : World} {b o : Nat} {l : List UInt8} (h : By w b o l) (hk : Kept S w w') (hs : ∀ j, j < l.length → ¬ S b (o + j)) : By w' b o l := Hold.kept h hk hs
theorem Br.kept {S : Nat → Nat → Prop} {w w' : World} {b o : Nat} {l : List UInt8} (h : Br w b o l) (hk : Kept S w w') (hs : ∀ j, j < l.length → ¬ S b (o + j)) : Br w' b o l := Rd.kept h hk hs
theorem bf_left {l m : List UInt8} {j : Nat} (h : j < l.length) : bf (l ++ m) j = bf l j := by simp [bf, List.getElem?_append_left h]
theorem bf_right (l m : List UInt8) (j : Nat) : bf (l ++ m) (l.length + j) = bf m j := by simp [bf, List.getElem?_append_right]
theorem By.left {w : World} {b o : Nat} {l m : List UInt8} (h : By w b o (l ++ m)) : By w b o l := fun j hj => by
  have := h j (by simp; omega)
  rwa [bf_left hj] at this
theorem By.right {w : World} {b o : Nat} {l m : List UInt8} (h : By w b o (l ++ m)) : By w b (o + l.length) m := fun j hj => by
  have := h (l.length + j) (by simp; omega)
  rwa [bf_right, ← Nat.add_assoc] at this
theorem By.join {w : World} {b o : Nat} {l m : List UInt8} (h : By w b o l) (k : By w b (o + l.length) m) : By w b o (l ++ m) := fun j hj => by
  by_cases hl : j < l.length
  · rw [bf_left hl]; exact h j hl
  · obtain ⟨i, rfl⟩ : ∃ i, j = l.length + i := ⟨j - l.length, by omega⟩
    rw [bf_right, ← Nat.add_assoc]; exact k i (by simp at hj; omega)
theorem Br.left {w : World} {b o : Nat} {l m : List UInt8} (h : Br w b o (l ++ m)) : Br w b o l := fun j hj => by
  have := h j (by simp; omega)
  rwa [bf_left hj] at this
theorem Br.right {w : World} {b o : Nat} {l m : List UInt8} (h : Br w b o (l ++ m)) : Br w b (o + l.length) m := fun j hj => by
  have := h (l.length + j) (by simp; omega)
  rwa [bf_right, ← Nat.add_assoc] at this
theorem Br.join {w : World} {b o : Nat} {l m : List UInt8} (h : Br w b o l) (k : Br w b (o + l.length) m) : Br w b o (l ++ m) := fun j hj => by
  by_cases hl : j < l.length
  · rw [bf_left hl]; exact h j hl
  · obtain ⟨i, rfl⟩ : ∃ i, j = l.length + i := ⟨j - l.length, by omega⟩
    rw [bf_right, ← Nat.add_assoc]; exact k i (by simp at hj; omega)
theorem cells_eq (l : List UInt8) : byteCells l = (List.range l.length).map fun j => Value.int .u8 (bf l j) := by
  apply List.ext_getElem
  · simp [byteCells]
  · intro i h1 h2
    simp [byteCells] at h1
    simp [byteCells, bf, h1]
/-- Bytes are written over others. -/
theorem By.sets {w : World} {b o : Nat} {old l : List UInt8} (h : By w b o old) (hl : l.length = old.length) : By (w.setCells b o (byteCells l)) b o l := by
  have h1 := Hold.sets h (bf l)
  unfold By
  rw [cells_eq, hl]
  exact h1
theorem By.keptSets (w : World) (b o : Nat) (l : List UInt8) : Kept (In b o l.length) w (w.setCells b o (byteCells l)) := by
  have := Kept.sets w b o (byteCells l)
  rwa [byteCells_length] at this
theorem By.mid {w : World} {b o : Nat} {x old y l : List UInt8} (h : By w b o (x ++ old ++ y)) (hl : l.length = old.length) : By (w.setCells b (o + x.length) (byteCells l)) b o (x ++ l ++ y) := by
  have hk := By.keptSets w b (o + x.length) l
  have h1 := h.left.left
  have h2 := h.left.right
  have h3 := h.right
  rw [List.length_append, ← Nat.add_assoc] at h3
  refine By.join (By.join (h1.kept hk fun j hj hh => ?_) (h2.sets hl)) ?_
  · have := hh.2.1; omega
  · rw [List.length_append, ← Nat.add_assoc, hl]
    refine h3.kept hk fun j hj hh => ?_
    have := hh.2.2; omega
/-- The beginning is written over. -/
theorem By.over {w : World} {b : Nat} {h r l : List UInt8} (hh : By w b 0 (h ++ r)) (hl : l.length ≤ h.length) : By (w.setCells b 0 (byteCells l)) b 0 (over h l ++ r) := by
  have e : h ++ r = [] ++ h.take l.length ++ (h.drop l.length ++ r) := by rw [List.nil_append, ← List.append_assoc, List.take_append_drop]
  rw [e] at hh
  have := hh.mid (l := l) (by rw [List.length_take]; omega)
  simpa [Go.Wire.over, List.append_assoc] using this
theorem By.get {w : World} {b o : Nat} {l : List UInt8} (h : By w b o l) (j : Nat) (hj : j < l.length) : w.cell? ⟨b, o + j, none⟩ = some (.int .u8 (l[j].toNat : Int)) ∧ w.frozen? ⟨b, o + j, none⟩ = false := by
  rw [← bf_get hj]; exact h j hj
theorem Br.get {w : World} {b o : Nat} {l : List UInt8} (h : Br w b o l) (j : Nat) (hj : j < l.length) : w.cell? ⟨b, o + j, none⟩ = some (.int .u8 (l[j].toNat : Int)) := by
  rw [← bf_get hj]; exact h j hj
/-- A frame that tells the blocks. -/
theorem Kept.blocks {S : Nat → Prop} {w w' : World} (h1 : w'.os = w.os) (h2 : w'.tape = w.tape) (h3 : w'.output = w.output) (h4 : w.heap.size ≤ w'.heap.size)
    (h : ∀ k, k < w.heap.size → w'.heap[k]? = w.heap[k]? ∨ (S k ∧ ∃ c c' t fz, w.heap[k]? = some (.cells c t fz) ∧ w'.heap[k]? = some (.cells c' t fz) ∧ c.size = c'.size)) : Kept (fun k _ => S k) w w' := by
  refine ⟨h1, h2, h3, h4, fun b o hb hn => ?_, fun b o hb => ?_, fun b hb hn => ?_, fun b hb => ?_⟩
  · rcases h b hb with e | ⟨hs, _⟩
    · exact World.cell?_of_block e
    · exact (hn hs).elim
  · rcases h b hb with e | ⟨hs, c, c', t, fz, e1, e2, e3⟩
    · exact World.frozen?_of_block e
    · simp [World.frozen?, e1, e2]
  · rcases h b hb with e | ⟨hs, _⟩
    · exact e
    · exact (hn 0 hs).elim
  · rcases h b hb with e | ⟨hs, c, c', t, fz, e1, e2, e3⟩
    · simp [World.shape?, e]
    · simp [World.shape?, e1, e2, e3]
/-- The blocks of a buffer. -/
def OB (b : Nat) (g : Option Nat) : Nat → Nat → Prop := fun k _ => k = b ∨ some k = g
/-- A buffer at block b, its row at g, into which l was written. -/
def WB (b : Nat) (g : Option Nat) (l : List UInt8) (w : World) : Prop :=
  ∃ lr, (l = [] ∧ g = none ∧ w.heap[b]? = some (.cells #[.slice none 0 0, .int .i64 0, .int .i8 lr] 32 (0, 0))) ∨
    ∃ q cap cur, g = some q ∧ w.heap[b]? = some (.cells #[.slice (some ⟨q, 0, none⟩) l.length cap, .int .i64 0, .int .i8 lr] 32 (0, 0)) ∧ w.heap[q]? = some (.cells cur 5 (0, 0)) ∧
      l.length ≤ cap ∧ cap ≤ maxLen ∧ cur.size = cap ∧ cur.toList.take l.length = byteCells l ∧ q ≠ b
theorem WB.kept {b : Nat} {g : Option Nat} {l : List UInt8} {w w' : World} {S : Nat → Nat → Prop} (h : WB b g l w) (hk : Kept S w w') (h1 : ∀ o, ¬ S b o) (h2 : ∀ q, g = some q → ∀ o, ¬ S q o) : WB b g l w' := by
  obtain ⟨lr, ⟨rfl, rfl, hb⟩ | ⟨q, cap, cur, rfl, hb, hq, r⟩⟩ := h
  · exact ⟨lr, .inl ⟨rfl, rfl, (hk.block b (lt_of_heap hb) h1).trans hb⟩⟩
  · exact ⟨lr, .inr ⟨q, cap, cur, rfl, (hk.block b (lt_of_heap hb) h1).trans hb, (hk.block q (lt_of_heap hq) (h2 q rfl)).trans hq, r⟩⟩
theorem WB.lt {b : Nat} {g : Option Nat} {l : List UInt8} {w : World} (h : WB b g l w) : b < w.heap.size ∧ ∀ q, g = some q → q < w.heap.size ∧ q ≠ b := by
  obtain ⟨lr, ⟨rfl, rfl, hb⟩ | ⟨q, cap, cur, rfl, hb, hq, r⟩⟩ := h
  · exact ⟨lt_of_heap hb, fun q h => by cases h⟩
  · exact ⟨lt_of_heap hb, fun q' h => by obtain rfl := Option.some.inj h; exact ⟨lt_of_heap hq, r.2.2.2.2⟩⟩
theorem WB.fresh (w : World) : WB w.heap.size none [] (w.alloc (.cells #[.slice none 0 0, .int .i64 0, .int .i8 0] 32)) :=
  ⟨0, .inl ⟨rfl, rfl, heap_alloc_new w _⟩⟩
theorem WB.is {b : Nat} {g : Option Nat} {l : List UInt8} {w : World} (h : WB b g l w) : IsBuffer 32 5 0 b (byteCells l) w := by
  obtain ⟨lr, ⟨rfl, rfl, hb⟩ | ⟨q, cap, cur, rfl, hb, hq, h1, h2, h3, h4, h5⟩⟩ := h
  · exact ⟨Nat.zero_le _, _, lr, hb, World.ownsRow_nil _ _ _ _, by simp [Value.ownBlock]⟩
  · refine ⟨Nat.zero_le _, _, lr, hb, ⟨by simp, .inr ⟨q, cap, cur, by rw [byteCells_length], Nat.zero_le _, hq, by rw [byteCells_length]; exact h1, h2, by simpa using h3, ?_⟩⟩, ?_⟩
    · rw [Nat.mul_one, byteCells_length]; exact h4
    · simp [Value.ownBlock]; exact h5
theorem byte_one (l : List UInt8) : ∀ v ∈ byteCells l, v.oneCell' = true := fun v hv => by
  obtain ⟨b, _, rfl⟩ := List.mem_map.1 hv; rfl
end Go.Proofs.YtoebcbmkkhbldaaDoor
