/- spec.Fits, spec.Last, upTo, equal[string]. -/
import Derived.Test.YtoebcbmkkhbldaaDoorQIxs
import Derived.Test.YtoebcbmkkhbldaaDoorQSta
set_option linter.unusedVariables false
namespace Go.Proofs.YtoebcbmkkhbldaaDoor
open Go.RowKit Go.Mem Sais Go.Lib Go.Wire
set_option maxRecDepth 100000

def fitsB (n : Nat) (l : List Int) (m : Int) : Bool := decide (l.length = n) && decide (1 ≤ m) && l.all (fun x => decide (0 ≤ x ∧ x < m))
def FtRel (l : List Int) (m : Int) (w : World) (iv : Value) (wr : World) : Prop := ∃ k : Nat, k ≤ l.length ∧ iv = .int .i64 (k : Nat) ∧ w = wr ∧ Hid (∀ j (h : j < l.length), j < k → 0 ≤ l[j] ∧ l[j] < m)
theorem fits_ints {n : Nat} {l : List Int} {m : Int} (h : fitsB n l m = true) : 1 ≤ m ∧ l.length = n ∧ ∃ js : List Nat, l = ints js ∧ js.length = n ∧ ∀ j ∈ js, j < m.toNat := by
  unfold fitsB at h
  rw [Bool.and_eq_true, Bool.and_eq_true] at h
  have h1 := of_decide_eq_true h.1.1
  have h2 := of_decide_eq_true h.1.2
  have h3 := List.all_eq_true.1 h.2
  refine ⟨h2, h1, l.map Int.toNat, ?_, by rw [List.length_map]; exact h1, fun j hj => ?_⟩
  · unfold ints
    rw [List.map_map]
    refine (List.map_id'' (fun x => rfl) l).symm.trans (List.map_congr_left fun x hx => ?_)
    have := of_decide_eq_true (h3 x hx)
    simp only [Function.comp_apply, nint]
    omega
  · obtain ⟨x, hx, rfl⟩ := List.mem_map.1 hj
    have := of_decide_eq_true (h3 x hx)
    omega
/-- spec.Last -/
def LaRel (ts : List ByteArray) (js : List Nat) (k : Nat) (w : World) (ov iv : Value) (wr : World) : Prop := ∃ i : Nat, i ≤ ts.length ∧ iv = .int .i64 (i : Nat) ∧ ov = .string (lastT ts js i k) ∧ w = wr
/-- upTo -/
def UtRel (n : Nat) (w : World) (ov iv : Value) (wr : World) : Prop := ∃ k : Nat, k ≤ n ∧ iv = .int .i64 (k : Nat) ∧ Hid (OL w.heap.size (ints (List.range k)) wr ov) ∧ Hid (Grew w wr)
theorem ints_range (k : Nat) : ints (List.range (k + 1)) = ints (List.range k) ++ [(k : Int)] := by
  unfold ints; rw [List.range_succ, List.map_append]; rfl
/-- equal[string] -/
theorem ext_strs {l l' : List ByteArray} (h : l.length = l'.length) (e : ∀ j (h1 : j < l.length) (h2 : j < l'.length), l[j] = l'[j]) : l = l' := List.ext_getElem h e
def FsRel (m : Nat) (w : World) (iv : Value) (wr : World) : Prop := ∃ k : Nat, k ≤ m ∧ iv = .int .i64 (k : Nat) ∧ Hid (Grew w wr)
theorem map_get {α : Type} (T : Nat → α) (m k : Nat) (h : k < ((List.range m).map T).length) : ((List.range m).map T)[k] = T k := by simp
def FsaRel (m : Nat) (w : World) (iv : Value) (wr : World) : Prop := ∃ k : Nat, k ≤ m ∧ iv = .int .i64 (k : Nat) ∧ Hid (Grew w wr)
theorem lastT_range (ts : List ByteArray) : ∀ (i : Nat), i ≤ ts.length → ∀ j, j < i → lastT ts (List.range ts.length) i j = ts.getD j ⟨#[]⟩
  | 0, _, j, hj => (Nat.not_lt_zero _ hj).elim
  | i + 1, hi, j, hj => by
    have e : (List.range ts.length).getD i 0 = i := by simp [show i < ts.length by omega]
    unfold lastT
    rw [e]
    by_cases h : j = i
    · subst h; rw [fset_same]
    · rw [fset_other _ _ h]; exact lastT_range ts i (by omega) j (by omega)
theorem lastT_all (ts : List ByteArray) : (List.range ts.length).map (lastT ts (List.range ts.length) ts.length) = ts := by
  apply List.ext_getElem
  · simp
  · intro j h1 h2
    rw [List.getElem_map, List.getElem_range, lastT_range ts _ (Nat.le_refl _) j h2]
    simp [h2]
theorem lastT_zero (ts : List ByteArray) (n : Nat) : lastT ts (List.replicate n 0) ts.length 0 = ts.getD (ts.length - 1) ⟨#[]⟩ := by
  cases h : ts.length with
  | zero => rw [List.length_eq_zero_iff.1 h]; rfl
  | succ i =>
    have e : (List.replicate n 0).getD i 0 = 0 := by
      by_cases h : i < n <;> simp [h]
    unfold lastT
    rw [e, fset_same]
    rfl
theorem lastT_none (ts : List ByteArray) (n j : Nat) (hj : 0 < j) : ∀ (i : Nat), lastT ts (List.replicate n 0) i j = ⟨#[]⟩
  | 0 => rfl
  | i + 1 => by
    have e : (List.replicate n 0).getD i 0 = 0 := by
      by_cases h : i < n <;> simp [h]
    unfold lastT
    rw [e, fset_other _ _ (by omega)]
    exact lastT_none ts n j hj i
theorem Tryd.makeI64 (u : World) (n : Nat) (hn : n ≤ 1073741824) : (Instr.makeSlice 26 (.int .i64 (n : Int)) (.int .i64 (n : Int))).run Tryd.prog u =
    .ok (.slice (some ⟨u.heap.size, 0, none⟩) n n) (u.alloc (.cells (madeCells #[.int .i64 0] n) 3)) := by
  obtain ⟨i0, hi, hz0, hz1, hz2⟩ := info_parts Tryd.infoInt
  have h := run_make (P := Tryd.prog) u 26 3 i0 (.int .i64 0) Tryd.underlying26 hi hz0 .i64 .i64 (n : Int) (n : Int) (by omega) (Int.le_refl _) (by rw [hz2]; omega) (by omega)
  simpa [hz1, Value.cells] using h
theorem zeros_il (w : World) (n : Nat) : IL (ints (List.replicate n 0)) (w.alloc (.cells (madeCells #[.int .i64 0] n) 3)) (.slice (some ⟨w.heap.size, 0, none⟩) n n) := by
  have hl : (ints (List.replicate n 0)).length = n := by rw [ints_length, List.length_replicate]
  have h := IL.mk (l := ints (List.replicate n 0)) (w := w.alloc (.cells (madeCells #[.int .i64 0] n) 3)) (b := w.heap.size) (o := 0) (c := n) (by rw [hl]; exact Nat.le_refl _) (fun j hj => by
    rw [hl] at hj
    rw [(Hold.made .i64 w 3 n j hj).1]
    simp [ints, nint])
  rw [hl] at h
  exact h
end Go.Proofs.YtoebcbmkkhbldaaDoor
