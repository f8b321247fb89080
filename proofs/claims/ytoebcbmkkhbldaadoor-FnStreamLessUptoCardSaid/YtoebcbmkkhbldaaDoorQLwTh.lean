/- FnThrough. -/
import Derived.Test.YtoebcbmkkhbldaaDoorQLwSp
set_option linter.unusedVariables false
namespace Go.Proofs.YtoebcbmkkhbldaaDoor
open Go.RowKit Go.Mem Sais
set_option maxRecDepth 100000

theorem Tryd.infoBool : (Tryd.prog.info? 4).map (fun i => (i.zero, i.size, i.bytes)) = some (some (.bool false), 1, 1) := by kernel_rfl
/-- n bools at the head of block b. -/
def BH (w : World) (b n : Nat) (F : Nat → Bool) : Prop := ∀ j, j < n → w.cell? ⟨b, j, none⟩ = some (.bool (F j)) ∧ w.frozen? ⟨b, j, none⟩ = false
theorem BH.made (w : World) (t : TypeId) (n : Nat) : BH (w.alloc (.cells (madeCells #[.bool false] n) t)) w.heap.size n (fun _ => false) := fun j hj => by
  refine ⟨?_, World.frozen?_alloc_new _ _ _ _⟩
  rw [World.cell?_alloc_new, ← Array.getElem?_toList, toList_madeCells_one, List.getElem?_replicate, if_pos hj]
theorem BH.grew {w w' : World} {b n : Nat} {F : Nat → Bool} (h : BH w b n F) (hk : Grew w w') : BH w' b n F := fun j hj => by
  have hb := World.block_lt_of_cell? w _ (h j hj).1
  exact ⟨(hk.cell b j hb fun h => h).trans (h j hj).1, (hk.frozen b j hb).trans (h j hj).2⟩
theorem BH.congr {w : World} {b n : Nat} {F G : Nat → Bool} (h : BH w b n F) (e : ∀ j, j < n → F j = G j) : BH w b n G := fun j hj => by rw [← e j hj]; exact h j hj
theorem BH.set {w : World} {b n i : Nat} {F : Nat → Bool} (h : BH w b n F) (hi : i < n) (x : Bool) : BH (w.setCell ⟨b, i, none⟩ (.bool x)) b n (fun j => if j = i then x else F j) := fun j hj => by
  refine ⟨?_, ?_⟩
  · by_cases e : j = i
    · subst e
      have h1 := (h j hj).1
      simp only [if_true]
      exact World.cell?_setCell_same _ _ _ h1
    · simp only [if_neg e]
      rw [World.cell?_setCell_other w _ _ _ (fun h' => e (by injection h' with _ h2 _; exact h2.symm))]; exact (h j hj).1
  · rw [World.frozen?_setCell]; exact (h j hj).2
/-- The cells of those bools. -/
def InB (fb n : Nat) : Nat → Nat → Prop := fun b o => b = fb ∧ o < n
theorem notB {w : World} {fb n b o : Nat} {F : Nat → Bool} {k : IntKind} {x : Int} (h : BH w fb n F) (hc : w.cell? ⟨b, o, none⟩ = some (.int k x)) : ¬ InB fb n b o := by
  rintro ⟨rfl, ho⟩
  rw [(h o ho).1] at hc; cases hc
/-- The relation of the first loop. -/
def ThRel (l : List Int) (fb n : Nat) (w2 : World) (iv : Value) (wr : World) : Prop := ∃ k : Nat, k ≤ l.length ∧ iv = .int .i64 k ∧ Hid (BH wr fb n (fun j => decide ((j : Int) ∈ l.take k))) ∧ Hid (Kept (InB fb n) w2 wr)
theorem mem_take_succ {l : List Int} {k : Nat} (h : k < l.length) (x : Int) : x ∈ l.take (k + 1) ↔ x ∈ l.take k ∨ x = l[k] := by
  rw [List.take_succ_eq_append_getElem h, List.mem_append, List.mem_singleton]
theorem lookup_lt {s t : ByteArray} {l : List Int} (h : l.Perm (ints (places s t))) : ∀ x ∈ l, 0 ≤ x ∧ x < s.size := fun x hx => by
  have := mem_ints.1 (h.mem_iff.1 hx)
  have h2 := mem_places.1 this.2
  have h3 := h2.2.1
  omega
theorem through_mem {a b c : ByteArray} {l1 l2 l3 : List Int} (h1 : l1.Perm (ints (places c a))) (h2 : l2.Perm (ints (places b a))) (h3 : l3.Perm (ints (places c b))) {x y : Int} (hx : x ∈ l2) (hy : y ∈ l3) : x + y ∈ l1 := by
  have e2 := mem_ints.1 (h2.mem_iff.1 hx)
  have e3 := mem_ints.1 (h3.mem_iff.1 hy)
  rw [h1.mem_iff, mem_ints]
  refine ⟨by omega, ?_⟩
  rw [show (x + y).toNat = x.toNat + y.toNat by omega]
  exact through_law e2.2 e3.2
end Go.Proofs.YtoebcbmkkhbldaaDoor
