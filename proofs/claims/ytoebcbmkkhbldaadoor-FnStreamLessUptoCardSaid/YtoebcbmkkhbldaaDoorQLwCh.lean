/- FnChanged. -/
import Derived.Test.YtoebcbmkkhbldaaDoorQLwPe
set_option linter.unusedVariables false
namespace Go.Proofs.YtoebcbmkkhbldaaDoor
open Go.RowKit Go.Mem Sais
set_option maxRecDepth 100000

theorem filter_take {α : Type} (l : List α) (f : α → Bool) (k : Nat) (h : k < l.length) : (l.take (k + 1)).filter f = (l.take k).filter f ++ (if f l[k] = true then [l[k]] else []) := by
  rw [List.take_succ_eq_append_getElem h, List.filter_append]
  congr 1
  simp [List.filter_cons]
theorem filter_take_yes {α : Type} {l : List α} {f : α → Bool} {k : Nat} {h : k < l.length} (hf : f l[k] = true) : (l.take (k + 1)).filter f = (l.take k).filter f ++ [l[k]] := by rw [filter_take l f k h, if_pos hf]
theorem filter_take_no {α : Type} {l : List α} {f : α → Bool} {k : Nat} {h : k < l.length} (hf : f l[k] = false) : (l.take (k + 1)).filter f = (l.take k).filter f := by rw [filter_take l f k h, if_neg (by rw [hf]; simp), List.append_nil]
theorem filter_take_len {α : Type} (l : List α) (f : α → Bool) (k : Nat) : ((l.take k).filter f).length ≤ l.length := Nat.le_trans (List.length_filter_le _ _) (by simp; omega)
/-- The relation of a loop that gathers: out holds what f leaves of the first k. -/
def GaRel (l : List Int) (f : Int → Bool) (w : World) (ov iv : Value) (wr : World) : Prop := ∃ k : Nat, k ≤ l.length ∧ iv = .int .i64 k ∧ Hid (OL w.heap.size ((l.take k).filter f) wr ov) ∧ Hid (Grew w wr)
/-- What FnChanged knows of its world. -/
structure Chg (w0 wr : World) (p a : Nat) (s : ByteArray) : Prop where
  d5 : wr.cell? ⟨p, 0, none⟩ = some (.string s)
  d6 : wr.cell? ⟨p + 1, 0, none⟩ = some (.int .i64 (a : Int))
  grew : Grew w0 wr
theorem Chg.of {w0 w1 wr : World} {p a : Nat} {s : ByteArray} (h : Chg w0 w1 p a s) (hk : Grew w1 wr) : Chg w0 wr p a s :=
  ⟨(hk.cell _ 0 (World.block_lt_of_cell? w1 _ h.d5) fun h => h).trans h.d5, (hk.cell _ 0 (World.block_lt_of_cell? w1 _ h.d6) fun h => h).trans h.d6, h.grew.trans hk⟩
theorem lookup_bd {s t : ByteArray} {l : List Int} (hs : s.size ≤ 1073741824) (h : l.Perm (ints (places s t))) : ∀ x ∈ l, 0 ≤ x ∧ x ≤ 1073741824 := fun x hx => by
  have := mem_ints.1 (h.mem_iff.1 hx)
  have h2 := (mem_places.1 this.2).2.1
  omega
end Go.Proofs.YtoebcbmkkhbldaaDoor
