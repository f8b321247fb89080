/- Texts in one: Mem Scope Code Bits Freq Bucket Lay Mem2 Map AsgD -/
import Derived.Test.YtoebcbmkkhbldaaDoorRows
import Derived.Test.YtoebcbmkkhbldaaDoorA1
import Derived.WalkKit
import Derived.BigFrame
import Derived.Lib.Hide
import Derived.Deep.LoopGhost
import Derived.Deep.QuietTactic
import Derived.BigQuiet
import Derived.WalkSpells
import Derived.Lib.SliceRun
import Derived.Scope
import Derived.WalkMore
/- Words for the walks: a row of cells that holds given numbers; what a call leaves as it was. -/
set_option linter.unusedVariables false
namespace Go.Mem
open Go.RowKit Sais

/-- Cells off .. off + n - 1 of block b hold the numbers f 0, f 1, .. and may be written. -/
def Hold (k : IntKind) (w : World) (b off n : Nat) (f : Nat → Int) : Prop :=
  ∀ j, j < n → w.cell? ⟨b, off + j, none⟩ = some (.int k (f j)) ∧ w.frozen? ⟨b, off + j, none⟩ = false

/-- They hold these numbers; whether they may be written is not said. -/
def Rd (k : IntKind) (w : World) (b off n : Nat) (f : Nat → Int) : Prop :=
  ∀ j, j < n → w.cell? ⟨b, off + j, none⟩ = some (.int k (f j))

def In (b0 off n b o : Nat) : Prop := b = b0 ∧ off ≤ o ∧ o < off + n
def Apart (b off n b' off' n' : Nat) : Prop := b ≠ b' ∨ off + n ≤ off' ∨ off' + n' ≤ off

theorem Apart.symm {b off n b' off' n' : Nat} (h : Apart b off n b' off' n') : Apart b' off' n' b off n := by
  unfold Apart at *; omega
theorem Apart.out {b off n b' off' n' j : Nat} (h : Apart b off n b' off' n') (hj : j < n) : ¬ In b' off' n' b (off + j) := by
  unfold Apart In at *; omega
theorem Apart.ne {b off n b' off' n' j j' : Nat} (h : Apart b off n b' off' n') (hj : j < n) (hj' : j' < n') : (⟨b', off' + j', none⟩ : Addr) ≠ ⟨b, off + j, none⟩ := by
  intro e
  simp only [Addr.mk.injEq, and_true] at e
  unfold Apart at h; omega

/-- Outside S the world w' is as w was. -/
structure Kept (S : Nat → Nat → Prop) (w w' : World) : Prop where
  os : w'.os = w.os
  tape : w'.tape = w.tape
  output : w'.output = w.output
  size : w.heap.size ≤ w'.heap.size
  cell : ∀ b o, b < w.heap.size → ¬ S b o → w'.cell? ⟨b, o, none⟩ = w.cell? ⟨b, o, none⟩
  frozen : ∀ b o, b < w.heap.size → w'.frozen? ⟨b, o, none⟩ = w.frozen? ⟨b, o, none⟩
  block : ∀ b, b < w.heap.size → (∀ o, ¬ S b o) → w'.heap[b]? = w.heap[b]?
  shape : ∀ b, b < w.heap.size → w'.shape? b = w.shape? b

theorem Kept.refl (S : Nat → Nat → Prop) (w : World) : Kept S w w := ⟨rfl, rfl, rfl, Nat.le_refl _, fun _ _ _ _ => rfl, fun _ _ _ => rfl, fun _ _ _ => rfl, fun _ _ => rfl⟩
theorem Kept.mono {S S' : Nat → Nat → Prop} {w w' : World} (h : Kept S w w') (hs : ∀ b o, b < w.heap.size → S b o → S' b o) : Kept S' w w' :=
  ⟨h.os, h.tape, h.output, h.size, fun b o hb hn => h.cell b o hb (fun hh => hn (hs b o hb hh)), h.frozen, fun b hb hn => h.block b hb (fun o hh => hn o (hs b o hb hh)), h.shape⟩
theorem Kept.trans {S : Nat → Nat → Prop} {a b c : World} (h : Kept S a b) (k : Kept S b c) : Kept S a c :=
  ⟨k.os.trans h.os, k.tape.trans h.tape, k.output.trans h.output, Nat.le_trans h.size k.size,
   fun x o hx hn => (k.cell x o (Nat.lt_of_lt_of_le hx h.size) hn).trans (h.cell x o hx hn),
   fun x o hx => (k.frozen x o (Nat.lt_of_lt_of_le hx h.size)).trans (h.frozen x o hx),
   fun x hx hn => (k.block x (Nat.lt_of_lt_of_le hx h.size) hn).trans (h.block x hx hn),
   fun x hx => (k.shape x (Nat.lt_of_lt_of_le hx h.size)).trans (h.shape x hx)⟩
/-- Two calls, the second one in a world that has grown. -/
theorem Kept.trans' {S S' : Nat → Nat → Prop} {a b c : World} (h : Kept S a b) (k : Kept S' b c) (hs : ∀ x o, x < a.heap.size → S' x o → S x o) : Kept S a c :=
  ⟨k.os.trans h.os, k.tape.trans h.tape, k.output.trans h.output, Nat.le_trans h.size k.size,
   fun x o hx hn => (k.cell x o (Nat.lt_of_lt_of_le hx h.size) (fun hh => hn (hs x o hx hh))).trans (h.cell x o hx hn),
   fun x o hx => (k.frozen x o (Nat.lt_of_lt_of_le hx h.size)).trans (h.frozen x o hx),
   fun x hx hn => (k.block x (Nat.lt_of_lt_of_le hx h.size) (fun o hh => hn o (hs x o hx hh))).trans (h.block x hx hn),
   fun x hx => (k.shape x (Nat.lt_of_lt_of_le hx h.size)).trans (h.shape x hx)⟩
theorem Kept.drew {S : Nat → Nat → Prop} {w w' : World} (h : Kept S w w') : Kept S w w'.drew :=
  ⟨h.os, h.tape, h.output, h.size, h.cell, h.frozen, h.block, h.shape⟩
theorem Kept.drewN {S : Nat → Nat → Prop} {w w' : World} (h : Kept S w w') (n : Nat) : Kept S w (w'.drewN n) :=
  ⟨h.os, h.tape, h.output, h.size, h.cell, h.frozen, h.block, h.shape⟩

theorem heap_setCell_other (w : World) (a : Addr) (v : Value) (b : Nat) (h : a.block ≠ b) : (w.setCell a v).heap[b]? = w.heap[b]? := by
  simp [World.setCell, Array.getElem?_modify, h]
theorem shape_setCell (w : World) (a : Addr) (v : Value) (b : Nat) : (w.setCell a v).shape? b = w.shape? b := by
  unfold World.shape?
  by_cases h : a.block = b
  · subst h
    simp only [World.setCell, Array.getElem?_modify, if_true]
    cases w.heap[a.block]? with
    | none => rfl
    | some o =>
      cases o <;> simp
      split <;> simp
  · rw [heap_setCell_other w a v b h]

theorem Kept.set {S : Nat → Nat → Prop} {w w' : World} (h : Kept S w w') {b o : Nat} (v : Value) (hs : S b o) : Kept S w (w'.setCell ⟨b, o, none⟩ v) := by
  refine ⟨h.os, h.tape, h.output, by rw [World.size_setCell]; exact h.size, ?_, ?_, ?_, ?_⟩
  · intro b' o' hb hn
    rw [World.cell?_setCell_other]
    · exact h.cell b' o' hb hn
    · intro e
      simp only [Addr.mk.injEq, and_true] at e
      exact hn (e.1 ▸ e.2 ▸ hs)
  · intro b' o' hb
    rw [World.frozen?_setCell]
    exact h.frozen b' o' hb
  · intro b' hb hn
    rw [heap_setCell_other]
    · exact h.block b' hb hn
    · intro e
      exact hn o (by rw [← show b = b' from e]; exact hs)
  · intro b' hb
    rw [shape_setCell]
    exact h.shape b' hb

theorem Hold.rd {k : IntKind} {w : World} {b off n : Nat} {f : Nat → Int} (h : Hold k w b off n f) : Rd k w b off n f := fun j hj => (h j hj).1
theorem Hold.lt {k : IntKind} {w : World} {b off n : Nat} {f : Nat → Int} (h : Hold k w b off n f) (hn : 0 < n) : b < w.heap.size := World.block_lt_of_cell? w _ (h 0 hn).1
theorem Rd.lt {k : IntKind} {w : World} {b off n : Nat} {f : Nat → Int} (h : Rd k w b off n f) (hn : 0 < n) : b < w.heap.size := World.block_lt_of_cell? w _ (h 0 hn)
theorem Hold.congr {k : IntKind} {w : World} {b off n : Nat} {f g : Nat → Int} (h : Hold k w b off n f) (hg : ∀ j, j < n → g j = f j) : Hold k w b off n g := fun j hj => by rw [hg j hj]; exact h j hj
theorem Rd.congr {k : IntKind} {w : World} {b off n : Nat} {f g : Nat → Int} (h : Rd k w b off n f) (hg : ∀ j, j < n → g j = f j) : Rd k w b off n g := fun j hj => by rw [hg j hj]; exact h j hj
/-- A part of a row. -/
theorem Hold.part {k : IntKind} {w : World} {b off n : Nat} {f : Nat → Int} (h : Hold k w b off n f) (d m : Nat) (hm : d + m ≤ n) : Hold k w b (off + d) m (fun j => f (d + j)) := fun j hj => by
  rw [Nat.add_assoc]; exact h (d + j) (by omega)
theorem Hold.head {k : IntKind} {w : World} {b off n : Nat} {f : Nat → Int} (h : Hold k w b off n f) {m : Nat} (hm : m ≤ n) : Hold k w b off m f := fun j hj => h j (by omega)

theorem Hold.kept {S : Nat → Nat → Prop} {k : IntKind} {w w' : World} {b off n : Nat} {f : Nat → Int} (h : Hold k w b off n f) (hk : Kept S w w') (hs : ∀ j, j < n → ¬ S b (off + j)) : Hold k w' b off n f := fun j hj => by
  have hb := h.lt (by omega)
  rw [hk.cell b _ hb (hs j hj), hk.frozen b _ hb]
  exact h j hj
theorem Rd.kept {S : Nat → Nat → Prop} {k : IntKind} {w w' : World} {b off n : Nat} {f : Nat → Int} (h : Rd k w b off n f) (hk : Kept S w w') (hs : ∀ j, j < n → ¬ S b (off + j)) : Rd k w' b off n f := fun j hj => by
  have hb := h.lt (by omega)
  rw [hk.cell b _ hb (hs j hj)]
  exact h j hj

theorem Hold.set {k : IntKind} {w : World} {b off n : Nat} {f : Nat → Int} (h : Hold k w b off n f) {i : Nat} (hi : i < n) (v : Int) : Hold k (w.setCell ⟨b, off + i, none⟩ (.int k v)) b off n (upd f i v) := fun j hj => by
  rw [World.frozen?_setCell]
  refine ⟨?_, (h j hj).2⟩
  by_cases e : j = i
  · subst e
    rw [World.cell?_setCell_same _ _ _ (h j hj).1, upd_same]
  · rw [World.cell?_setCell_other, upd_other _ _ e]
    · exact (h j hj).1
    · intro e2
      simp only [Addr.mk.injEq, and_true] at e2
      omega
theorem Hold.set_other {k : IntKind} {w : World} {b off n : Nat} {f : Nat → Int} (h : Hold k w b off n f) {b' off' n' : Nat} (ha : Apart b off n b' off' n') {i : Nat} (hi : i < n') (v : Value) : Hold k (w.setCell ⟨b', off' + i, none⟩ v) b off n f := fun j hj => by
  rw [World.frozen?_setCell, World.cell?_setCell_other _ _ _ _ (ha.ne hj hi)]
  exact h j hj
theorem Rd.set_other {k : IntKind} {w : World} {b off n : Nat} {f : Nat → Int} (h : Rd k w b off n f) {b' off' n' : Nat} (ha : Apart b off n b' off' n') {i : Nat} (hi : i < n') (v : Value) : Rd k (w.setCell ⟨b', off' + i, none⟩ v) b off n f := fun j hj => by
  rw [World.cell?_setCell_other _ _ _ _ (ha.ne hj hi)]
  exact h j hj
theorem Hold.drewN {k : IntKind} {w : World} {b off n : Nat} {f : Nat → Int} (h : Hold k w b off n f) (m : Nat) : Hold k (w.drewN m) b off n f := h
theorem Rd.drewN {k : IntKind} {w : World} {b off n : Nat} {f : Nat → Int} (h : Rd k w b off n f) (m : Nat) : Rd k (w.drewN m) b off n f := h
theorem Hold.drew {k : IntKind} {w : World} {b off n : Nat} {f : Nat → Int} (h : Hold k w b off n f) : Hold k w.drew b off n f := h
theorem Rd.drew {k : IntKind} {w : World} {b off n : Nat} {f : Nat → Int} (h : Rd k w b off n f) : Rd k w.drew b off n f := h

/-- The pointers, the one that is at hand apart. -/
def ptr (bk : Nat → Int) (cB : Nat) (b : Int) : Nat → Int := fun c => if c = cB then b else bk c
theorem ptr_here (bk : Nat → Int) (c : Nat) (b : Int) : ptr bk c b c = b := by simp [ptr]
theorem ptr_there (bk : Nat → Int) {c d : Nat} (b : Int) (h : c ≠ d) : ptr bk d b c = bk c := by simp [ptr, h]
theorem ptr_bump_here (bk : Nat → Int) (c : Nat) (b : Int) : ptr bk c (b + 1) = bump (ptr bk c b) c := by
  funext d; unfold ptr bump; by_cases e : d = c <;> simp [e]
theorem ptr_bump_there (bk : Nat → Int) {c d : Nat} (b : Int) (h : c ≠ d) : ptr (upd bk d b) c (bk c + 1) = bump (ptr bk d b) c := by
  funext x; unfold ptr bump upd
  by_cases e : x = c
  · subst e; simp [h]
  · simp [e]
theorem ptr_drop_here (bk : Nat → Int) (c : Nat) (b : Int) : ptr bk c (b - 1) = drop1 (ptr bk c b) c := by
  funext d; unfold ptr drop1; by_cases e : d = c <;> simp [e]
theorem ptr_drop_there (bk : Nat → Int) {c d : Nat} (b : Int) (h : c ≠ d) : ptr (upd bk d b) c (bk c - 1) = drop1 (ptr bk d b) c := by
  funext x; unfold ptr drop1 upd
  by_cases e : x = c
  · subst e; simp [h]
  · simp [e]
theorem drop1_upd (bk : Nat → Int) (c : Nat) : upd bk c (bk c - 1) = drop1 bk c := by
  funext x; unfold upd drop1; by_cases e : x = c <;> simp [e]
theorem ptr_self (bk : Nat → Int) (c : Nat) : ptr bk c (bk c) = bk := by
  funext x; unfold ptr; by_cases e : x = c <;> simp [e]

theorem heap_setCells_other (b : Nat) : ∀ (vs : List Value) (o : Nat) (w : World) (k : Nat), b ≠ k → (w.setCells b o vs).heap[k]? = w.heap[k]?
  | [], _, _, _, _ => rfl
  | v :: vs, o, w, k, h => by
    show ((w.setCell ⟨b, o, none⟩ v).setCells b (o + 1) vs).heap[k]? = _
    rw [heap_setCells_other b vs _ _ k h, heap_setCell_other _ _ _ _ h]
theorem shape_setCells (b : Nat) : ∀ (vs : List Value) (o : Nat) (w : World) (k : Nat), (w.setCells b o vs).shape? k = w.shape? k
  | [], _, _, _ => rfl
  | v :: vs, o, w, k => by
    show ((w.setCell ⟨b, o, none⟩ v).setCells b (o + 1) vs).shape? k = _
    rw [shape_setCells b vs, shape_setCell]
theorem plain_setCells (b : Nat) : ∀ (vs : List Value) (o : Nat) (w : World), (w.setCells b o vs).os = w.os ∧ (w.setCells b o vs).tape = w.tape ∧ (w.setCells b o vs).output = w.output ∧ (w.setCells b o vs).heap.size = w.heap.size
  | [], _, _ => ⟨rfl, rfl, rfl, rfl⟩
  | v :: vs, o, w => by
    have h := plain_setCells b vs (o + 1) (w.setCell ⟨b, o, none⟩ v)
    rw [World.size_setCell] at h
    exact h
theorem Kept.sets (w : World) (b o : Nat) (vs : List Value) : Kept (In b o vs.length) w (w.setCells b o vs) := by
  obtain ⟨h1, h2, h3, h4⟩ := plain_setCells b vs o w
  refine ⟨h1, h2, h3, by rw [h4]; exact Nat.le_refl _, ?_, ?_, ?_, ?_⟩
  · intro b' o' _ hn
    refine World.cell?_setCells_out b vs o w _ fun e _ => ?_
    simp only at e
    unfold In at hn
    simp only
    omega
  · intro b' o' _
    exact World.frozen?_setCells b vs o w _
  · intro b' _ hn
    by_cases e : b = b'
    · subst e
      cases vs with
      | nil => rfl
      | cons v vs => exact (hn o ⟨rfl, Nat.le_refl _, by simp⟩).elim
    · exact heap_setCells_other b vs o w b' e
  · intro b' _
    exact shape_setCells b vs o w b'
theorem Hold.sets {k : IntKind} {w : World} {b o n : Nat} {f : Nat → Int} (h : Hold k w b o n f) (g : Nat → Int) : Hold k (w.setCells b o ((List.range n).map fun j => Value.int k (g j))) b o n g := by
  intro j hj
  refine ⟨?_, ?_⟩
  · have := World.cell?_setCells_in b ((List.range n).map fun j => Value.int k (g j)) o w (fun j hj => by rw [(h j (by simpa using hj)).1]; rfl) j (by simpa using hj)
    rw [this]
    simp
  · rw [World.frozen?_setCells]; exact (h j hj).2

/-- 'clear' on a slice of numbers. -/
theorem run_clear {P : Program} {t e : TypeId} {k : IntKind} (w : World) (ht : P.underlying t = some (.slice e)) (hv : ∀ w, (zeroValue e).run P w = .ok (.int k 0) w) {b o n : Nat} (c : Nat) {f : Nat → Int} (hn : 0 < n) (h : Hold k w b o n f) :
    ∃ w1, (∀ ty, (Builtin.clear_ #[t] ty #[.slice (some ⟨b, o, none⟩) n c]).run P w = .ok (.tuple #[]) w1) ∧ Hold k w1 b o n (fun _ => 0) ∧ Kept (In b o n) w w1 := by
  refine ⟨w.setCells b o (List.replicate n (.int k 0)), fun ty => Lib.run_clear_slice w t e ty _ ht hv rfl rfl b o n c hn (fun j hj => by rw [(h j hj).1]; rfl) (fun j hj => (h j hj).2), ?_, ?_⟩
  · have e1 : List.replicate n (Value.int k 0) = (List.range n).map fun j => Value.int k ((fun _ => 0) j) := by
      apply List.ext_getElem
      · simp
      · intro i h1 h2; simp
    rw [e1]
    exact h.sets _
  · have := Kept.sets w b o (List.replicate n (.int k 0))
    rwa [List.length_replicate] at this
end Go.Mem

/- A scope with two labels. -/
set_option linter.unusedVariables false
namespace Go.Mem
open Go.RowKit Sais
/-- As Q; by a goto to one of two labels: J1, J2. -/
def _root_.Go.Exit.two (l1 l2 : Nat) (J1 J2 : Act → World → Prop) (Q : Exit → Act → World → Prop) : Exit → Act → World → Prop
  | .goto l', a, w => (l' = l1 ∧ J1 a w) ∨ (l' = l2 ∧ J2 a w)
  | e, a, w => Q e a w
/-- A scope with two labels, both ahead: what stands behind each label is walked where the goto stands. -/
theorem wp_scope_two {P : Program} {a : Act} {w : World} {Q : Exit → Act → World → Prop} {c r1 r2 : Code} (l1 l2 : Nat) (hne : l1 ≠ l2) (h1 : findLabel c l1 = some r1) (h2 : findLabel c l2 = some r2)
    (first : ∀ J1 J2 : Act → World → Prop, (∀ a w, r1.wp P (Exit.noGoto Q) a w → J1 a w) → (∀ a w, r2.wp P (Exit.noGoto Q) a w → J2 a w) → c.wp P (Exit.two l1 l2 J1 J2 Q) a w) : (Code.scope c).wp P Q a w := by
  intro b k cs
  have hg1 : gotoIn l1 (.inScope c :: k) = some (.code r1 :: .inScope c :: k) := by simp [gotoIn, h1]
  have hg2 : gotoIn l2 (.inScope c :: k) = some (.code r2 :: .inScope c :: k) := by simp [gotoIn, h2]
  have key : ∀ (r : Code) a w, r.wp P (Exit.noGoto Q) a w → ∃ e a' w', Q e a' w' ∧ Arrives P (lone (b.at a (.code r :: .inScope c :: k)) cs w) b k cs e a' w' := by
    intro r a w h
    obtain ⟨e, a₁, w₁, hq, harr⟩ := h b (.inScope c :: k) cs
    cases e with
    | normal => exact ⟨.normal, a₁, w₁, hq, Steps.trans harr (.one step_inScope)⟩
    | exit id => exact ⟨.exit id, a₁, w₁, hq, fun k' hk => harr k' (by simp [exitTo, hk])⟩
    | goto l => exact hq.elim
    | ret => exact ⟨_, a₁, w₁, hq, harr⟩
    | panic ch => exact ⟨_, a₁, w₁, hq, harr⟩
    | outgrown => exact ⟨_, a₁, w₁, hq, harr⟩
  obtain ⟨e, a₁, w₁, hq, harr⟩ := first _ _ (fun _ _ h => h) (fun _ _ h => h) b (.inScope c :: k) cs
  cases e with
  | normal => exact ⟨.normal, a₁, w₁, hq, .head step_scope (Steps.trans harr (.one step_inScope))⟩
  | exit id => exact ⟨.exit id, a₁, w₁, hq, fun k' hk => .head step_scope (harr k' (by simp [exitTo, hk]))⟩
  | goto l' =>
    rcases hq with ⟨rfl, hJ⟩ | ⟨rfl, hJ⟩
    · obtain ⟨e₂, a₂, w₂, hq₂, harr₂⟩ := key r1 a₁ w₁ hJ
      exact ⟨e₂, a₂, w₂, hq₂, .of_steps (.head step_scope (harr _ hg1)) harr₂⟩
    · obtain ⟨e₂, a₂, w₂, hq₂, harr₂⟩ := key r2 a₁ w₁ hJ
      exact ⟨e₂, a₂, w₂, hq₂, .of_steps (.head step_scope (harr _ hg2)) harr₂⟩
  | ret => exact ⟨_, a₁, w₁, hq, .of_steps (.one step_scope) harr⟩
  | panic ch => exact ⟨_, a₁, w₁, hq, .of_steps (.one step_scope) harr⟩
  | outgrown => exact ⟨_, a₁, w₁, hq, .of_steps (.one step_scope) harr⟩


end Go.Mem

/- What stands for the lengths of LMS substrings: the length itself; for short texts of bytes, the bytes. -/
set_option linter.unusedVariables false
namespace Sais
open Classical
section
variable {T : Nat → Nat} {n : Nat}

noncomputable def lc32 (T : Nat → Nat) (n p : Nat) : Int := if h : ∃ d, Nx T n p d then ((Classical.choose h : Nat) : Int) + 1 else 0
theorem lc32_last {p : Nat} (h : ∀ d, ¬ Nx T n p d) : lc32 T n p = 0 := by
  unfold lc32
  rw [dif_neg (fun ⟨d, hd⟩ => h d hd)]
theorem lc32_nx {p d : Nat} (h : Nx T n p d) : lc32 T n p = (d : Int) + 1 := by
  unfold lc32
  have hex : ∃ d, Nx T n p d := ⟨d, h⟩
  rw [dif_pos hex, Nx_uniq (Classical.choose_spec hex) h]

/-- Two LMS places with equal keys have equal lengths. -/
theorem nx_same {p q : Nat} (hp : LMS T n p) (hq : LMS T n q) (h : ksub T n p = ksub T n q) : p = q ∨ ∃ d, Nx T n p d ∧ Nx T n q d ∧ ∀ t, t ≤ d → T (p + t) = T (q + t) := by
  rcases sub_eq _ p q (Nat.le_refl _) (by have := hp.2.1; omega) (by have := hq.2.1; omega) h with h1 | ⟨d, n1, n2, hc⟩
  · exact .inl h1
  · exact .inr ⟨d, n1, n2, fun t ht => (code_eq (hc t ht)).1⟩

theorem Nx_bd {p d : Nat} (h : Nx T n p d) : p + d + 1 < n := by have := LMS_lt h.2.1; omega

theorem lenCode32 (hn : n ≤ 1073741824) : LenCode T n (lc32 T n) where
  last p _ h := lc32_last h
  kind p d _ h := .inl (lc32_nx h)
  enc p q hp hq e h := by
    exfalso
    by_cases hx : ∃ d, Nx T n p d
    · obtain ⟨d, hd⟩ := hx
      have := Nx_bd hd
      rw [lc32_nx hd] at h
      omega
    · have h0 := hp.2.1
      rw [lc32_last (fun d hd => hx ⟨d, hd⟩)] at h
      omega
  same p q hp hq h := by
    rcases nx_same hp hq h with rfl | ⟨d, n1, n2, _⟩
    · rfl
    · rw [lc32_nx n1, lc32_nx n2]
  ne p hp := by
    by_cases hx : ∃ d, Nx T n p d
    · obtain ⟨d, hd⟩ := hx
      rw [lc32_nx hd]; omega
    · rw [lc32_last (fun d hd => hx ⟨d, hd⟩)]; omega
  bd p hp := by
    by_cases hx : ∃ d, Nx T n p d
    · obtain ⟨d, hd⟩ := hx
      have := Nx_bd hd
      rw [lc32_nx hd]; omega
    · rw [lc32_last (fun d hd => hx ⟨d, hd⟩)]; omega

/- BYTES -/
/-- The packed bytes: q, then t places ahead of it. -/
def pkv (T : Nat → Nat) (q : Nat) : Nat → Nat
  | 0 => (T q + 1) % 256
  | t + 1 => (pkv T q t * 256) % 4294967296 + (T (q - (t + 1)) + 1) % 256
theorem pkv_lt (q t : Nat) : pkv T q t < 4294967296 := by
  cases t with
  | zero => simp only [pkv]; omega
  | succ t => simp only [pkv]; omega
def s32 (x : Int) : Int := if 2147483648 ≤ x then x - 4294967296 else x
noncomputable def enc8 (T : Nat → Nat) (n p d : Nat) : Int :=
  if d + 1 ≤ 4 ∧ (n : Int) ≤ 4294967295 - (pkv T (p + d) d : Int) then s32 (4294967295 - (pkv T (p + d) d : Int)) else (d : Int) + 1
noncomputable def lc8 (T : Nat → Nat) (n p : Nat) : Int := if h : ∃ d, Nx T n p d then enc8 T n p (Classical.choose h) else 0
theorem lc8_last {p : Nat} (h : ∀ d, ¬ Nx T n p d) : lc8 T n p = 0 := by
  unfold lc8
  rw [dif_neg (fun ⟨d, hd⟩ => h d hd)]
theorem lc8_nx {p d : Nat} (h : Nx T n p d) : lc8 T n p = enc8 T n p d := by
  unfold lc8
  have hex : ∃ d, Nx T n p d := ⟨d, h⟩
  rw [dif_pos hex, Nx_uniq (Classical.choose_spec hex) h]
theorem Nx_two {p d : Nat} (hp : LMS T n p) (h : Nx T n p d) : 2 ≤ d := by
  have h1 := h.1
  refine Classical.byContradiction fun hh => ?_
  obtain rfl : d = 1 := by omega
  exact LMS_apart hp h.2.1
theorem LMS_small (hT : ∀ i, i < n → T i < 256) {p : Nat} (hp : LMS T n p) : T p < 255 := by
  have h0 := hp.1
  obtain ⟨m, rfl⟩ : ∃ m, p = m + 1 := ⟨p - 1, by omega⟩
  have h1 := LMS_gt hp
  have h2 := hT m (by have := hp.2.1; omega)
  omega
theorem pkv_two (a b c : Nat) (q : Nat) (ha : T q = a) (hb : T (q - 1) = b) (hc : T (q - 2) = c) : pkv T q 2 = (a + 1) % 256 * 65536 + (b + 1) % 256 * 256 + (c + 1) % 256 := by
  simp only [pkv, ha, hb, hc]
  omega
theorem pkv_three (a b c e : Nat) (q : Nat) (ha : T q = a) (hb : T (q - 1) = b) (hc : T (q - 2) = c) (he : T (q - 3) = e) : pkv T q 3 = (a + 1) % 256 * 16777216 + (b + 1) % 256 * 65536 + (c + 1) % 256 * 256 + (e + 1) % 256 := by
  simp only [pkv, ha, hb, hc, he]
  omega
theorem pkv_congr {p q d : Nat} (h : ∀ t, t ≤ d → T (p + t) = T (q + t)) : ∀ t, t ≤ d → pkv T (p + d) t = pkv T (q + d) t
  | 0, _ => by simp only [pkv]; rw [h d (Nat.le_refl _)]
  | t + 1, ht => by
    simp only [pkv]
    rw [pkv_congr h t (by omega), show p + d - (t + 1) = p + (d - (t + 1)) by omega, show q + d - (t + 1) = q + (d - (t + 1)) by omega, h _ (by omega)]

theorem enc8_kind (hn : n ≤ 1073741824) (p d : Nat) : (enc8 T n p d = (d : Int) + 1) ∨ (d + 1 ≤ 4 ∧ (n : Int) ≤ 4294967295 - (pkv T (p + d) d : Int) ∧ enc8 T n p d = s32 (4294967295 - (pkv T (p + d) d : Int)) ∧ (enc8 T n p d < 0 ∨ (n : Int) ≤ enc8 T n p d)) := by
  have := pkv_lt (T := T) (p + d) d
  unfold enc8
  by_cases h : d + 1 ≤ 4 ∧ (n : Int) ≤ 4294967295 - (pkv T (p + d) d : Int)
  · rw [if_pos h]
    refine .inr ⟨h.1, h.2, rfl, ?_⟩
    unfold s32
    split <;> omega
  · rw [if_neg h]; exact .inl rfl
theorem s32_inj {x y : Int} (hx : 0 ≤ x) (hx' : x < 4294967296) (hy : 0 ≤ y) (hy' : y < 4294967296) (h : s32 x = s32 y) : x = y := by
  unfold s32 at h
  split at h <;> split at h <;> omega
theorem pkv_pos (hT : ∀ i, i < n → T i < 256) {p d : Nat} (h : Nx T n p d) (hd : d = 2 ∨ d = 3) : 65536 ≤ pkv T (p + d) d ∧ (d = 2 → pkv T (p + d) d < 16777216) ∧ (d = 3 → 16777216 ≤ pkv T (p + d) d) := by
  have hs := LMS_small hT h.2.1
  rcases hd with rfl | rfl
  · rw [pkv_two (T (p + 2)) (T (p + 2 - 1)) (T (p + 2 - 2)) (p + 2) rfl rfl rfl]; omega
  · rw [pkv_three (T (p + 3)) (T (p + 3 - 1)) (T (p + 3 - 2)) (T (p + 3 - 3)) (p + 3) rfl rfl rfl rfl]; omega

theorem lenCode8 (hn : n ≤ 1073741824) (hT : ∀ i, i < n → T i < 256) : LenCode T n (lc8 T n) where
  last p _ h := lc8_last h
  kind p d _ h := by
    rw [lc8_nx h]
    rcases enc8_kind (T := T) hn p d with h1 | h1
    · exact .inl h1
    · exact .inr h1.2.2.2
  enc p q hp hq e h := by
    have key : ∀ a, LMS T n a → (lc8 T n a < 0 ∨ (n : Int) ≤ lc8 T n a) → ∃ d, Nx T n a d ∧ (d = 2 ∨ d = 3) ∧ lc8 T n a = s32 (4294967295 - (pkv T (a + d) d : Int)) := by
      intro a ha hh
      by_cases hx : ∃ d, Nx T n a d
      · obtain ⟨d, hd⟩ := hx
        have hb := Nx_bd hd
        have h2 := Nx_two ha hd
        rw [lc8_nx hd] at hh ⊢
        rcases enc8_kind (T := T) hn a d with h1 | h1
        · omega
        · exact ⟨d, hd, by omega, h1.2.2.1⟩
      · have h0 := ha.2.1
        rw [lc8_last (fun d hd => hx ⟨d, hd⟩)] at hh
        omega
    obtain ⟨d, hd, hd2, e1⟩ := key p hp h
    obtain ⟨d', hd', hd2', e2⟩ := key q hq (by rw [← e]; exact h)
    have b1 := pkv_lt (T := T) (p + d) d
    have b2 := pkv_lt (T := T) (q + d') d'
    have e3 := s32_inj (by omega) (by omega) (by omega) (by omega) (e1.symm.trans (e.trans e2))
    have e4 : pkv T (p + d) d = pkv T (q + d') d' := by omega
    have p1 := pkv_pos hT hd hd2
    have p2 := pkv_pos hT hd' hd2'
    have hdd : d = d' := by
      rcases hd2 with h1 | h1 <;> rcases hd2' with h2 | h2
      · omega
      · have := p1.2.1 h1; have := p2.2.2 h2; omega
      · have := p1.2.2 h1; have := p2.2.1 h2; omega
      · omega
    subst hdd
    have bp := Nx_bd hd
    have bq := Nx_bd hd'
    refine raw_sub hd hd' fun t ht => ?_
    rcases hd2 with rfl | rfl
    · rw [pkv_two (T (p + 2)) (T (p + 1)) (T p) (p + 2) rfl rfl rfl, pkv_two (T (q + 2)) (T (q + 1)) (T q) (q + 2) rfl rfl rfl] at e4
      have t0 := hT p (by omega); have t1 := hT (p + 1) (by omega); have t2 := hT (p + 2) (by omega)
      have u0 := hT q (by omega); have u1 := hT (q + 1) (by omega); have u2 := hT (q + 2) (by omega)
      have c0 : T p = T q := by omega
      have c1 : T (p + 1) = T (q + 1) := by omega
      have c2 : T (p + 2) = T (q + 2) := by omega
      rcases (show t = 0 ∨ t = 1 ∨ t = 2 by omega) with rfl | rfl | rfl
      · exact c0
      · exact c1
      · exact c2
    · rw [pkv_three (T (p + 3)) (T (p + 2)) (T (p + 1)) (T p) (p + 3) rfl rfl rfl rfl, pkv_three (T (q + 3)) (T (q + 2)) (T (q + 1)) (T q) (q + 3) rfl rfl rfl rfl] at e4
      have t0 := hT p (by omega); have t1 := hT (p + 1) (by omega); have t2 := hT (p + 2) (by omega); have t3 := hT (p + 3) (by omega)
      have u0 := hT q (by omega); have u1 := hT (q + 1) (by omega); have u2 := hT (q + 2) (by omega); have u3 := hT (q + 3) (by omega)
      have c0 : T p = T q := by omega
      have c1 : T (p + 1) = T (q + 1) := by omega
      have c2 : T (p + 2) = T (q + 2) := by omega
      have c3 : T (p + 3) = T (q + 3) := by omega
      rcases (show t = 0 ∨ t = 1 ∨ t = 2 ∨ t = 3 by omega) with rfl | rfl | rfl | rfl
      · exact c0
      · exact c1
      · exact c2
      · exact c3
  same p q hp hq h := by
    rcases nx_same hp hq h with rfl | ⟨d, n1, n2, hc⟩
    · rfl
    · rw [lc8_nx n1, lc8_nx n2]
      unfold enc8
      rw [pkv_congr hc d (Nat.le_refl _)]
  ne p hp := by
    by_cases hx : ∃ d, Nx T n p d
    · obtain ⟨d, hd⟩ := hx
      have h2 := Nx_two hp hd
      rw [lc8_nx hd]
      rcases enc8_kind (T := T) hn p d with h1 | h1
      · omega
      · rw [h1.2.2.1]
        have := (pkv_pos hT hd (by omega)).1
        have := pkv_lt (T := T) (p + d) d
        unfold s32
        split <;> omega
    · rw [lc8_last (fun d hd => hx ⟨d, hd⟩)]; omega
  bd p hp := by
    by_cases hx : ∃ d, Nx T n p d
    · obtain ⟨d, hd⟩ := hx
      have hb := Nx_bd hd
      rw [lc8_nx hd]
      rcases enc8_kind (T := T) hn p d with h1 | h1
      · omega
      · rw [h1.2.2.1]
        have := pkv_lt (T := T) (p + d) d
        unfold s32
        split <;> omega
    · rw [lc8_last (fun d hd => hx ⟨d, hd⟩)]; omega
end
end Sais

/- Bits: packing a byte, and the complement, on uint32. -/
set_option linter.unusedVariables false
namespace Go.Mem
theorem bits_pack (x y : Int) (hy0 : 0 ≤ y) (hy : y < 256) : bits BinOp.or IntKind.u32 (x * 256 % 4294967296) y = x * 256 % 4294967296 + y :=
  bits_join .u32 32 (by decide) (fun n h0 h1 => by rw [IntKind.wrap_u32]; omega) 8 _ _ (by omega) (by omega) (by omega) hy0 (by omega) (by omega)
theorem xor_all (x : Nat) (h : x < 4294967296) : 4294967295 ^^^ x = 4294967295 - x := by
  apply Nat.eq_of_testBit_eq
  intro i
  have h1 : (4294967295 : Nat) = 2 ^ 32 - 1 := by decide
  have h2 : (4294967295 : Nat) - x = 2 ^ 32 - (x + 1) := by omega
  rw [h2, Nat.testBit_two_pow_sub_succ (by omega), Nat.testBit_xor, h1, Nat.testBit_two_pow_sub_one]
  by_cases hi : i < 32
  · simp [hi]
  · have : x.testBit i = false := Nat.testBit_lt_two_pow (Nat.lt_of_lt_of_le (by omega : x < 2 ^ 32) (Nat.pow_le_pow_right (by omega) (by omega)))
    simp [hi, this]
theorem bits_not (x : Nat) (h : x < 4294967296) : bits BinOp.xor IntKind.u32 (if IntKind.u32.signed = true then -1 else IntKind.u32.max) (x : Int) = 4294967295 - (x : Int) := by
  have e : (if IntKind.u32.signed = true then (-1 : Int) else IntKind.u32.max) = ((4294967295 : Nat) : Int) := by decide
  rw [e, u32_xor_nat _ _ (by omega) h, xor_all x h]
  omega
end Go.Mem

/- The walks over freq. -/
set_option linter.unusedVariables false
namespace Go.Proofs.YtoebcbmkkhbldaaDoor
open Go.RowKit Go.Mem Sais
set_option maxRecDepth 100000

theorem Tryd.neq77s (w : World) (a : Addr) (n c : Nat) : (binOp .neq 43 (.slice (some a) n c) (.slice none 0 0)).run Tryd.prog w = .ok (.bool true) w := run_neq_slice_nil_any w _ _ _ _ _ _ _ Tryd.underlying43
theorem Tryd.eql77s (w : World) (a : Addr) (n c : Nat) : (binOp .eql 43 (.slice (some a) n c) (.slice none 0 0)).run Tryd.prog w = .ok (.bool false) w := Lib.run_eql_slice_nil w _ _ _ _ _ _ _ Tryd.underlying43
theorem Tryd.neq77n (w : World) (n c : Nat) : (binOp .neq 43 (.slice none n c) (.slice none 0 0)).run Tryd.prog w = .ok (.bool false) w := run_neq_slice_nil_any w _ _ _ _ _ _ _ Tryd.underlying43
theorem Tryd.eql77n (w : World) (n c : Nat) : (binOp .eql 43 (.slice none n c) (.slice none 0 0)).run Tryd.prog w = .ok (.bool true) w := Lib.run_eql_slice_nil w _ _ _ _ _ _ _ Tryd.underlying43
theorem Tryd.zero21 (w : World) : (zeroValue 21).run Tryd.prog w = .ok (.int .i32 0) w := by kernel_rfl

/-- The counts stand there already. -/
theorem freq_8_32_done (tv bv : Value) (fb fo fc : Nat) (f : Nat → Int) (w : World) (hf : Hold .i32 w fb fo 256 f) (h0 : 0 ≤ f 0) :
    Calls Tryd.prog 65 #[tv, .slice (some ⟨fb, fo, none⟩) 256 fc, bv] w fun e w' => e = .returned (.slice (some ⟨fb, fo, none⟩) 256 fc) ∧ w = w' := by
  obtain ⟨x, hx⟩ : ∃ x, f 0 = x := ⟨_, rfl⟩
  have hc := (hf 0 (by omega)).1
  rw [hx] at hc h0
  simp only [Nat.add_zero] at hc
  clear hf hx

  have q1 := Tryd.neq77s
  go_enter Tryd.func65, Tryd.ntmps65
  go_wp2
  go_ret
  exact ⟨rfl, rfl⟩

/-- The counts are made. -/
theorem freq_8_32_mk (T : Nat → Nat) (n : Nat) (hT : ∀ i, i < n → T i < 256) (hn : n ≤ 1073741824) (tb tx tc : Nat) (fb fo fc : Nat) (bv : Value) (f : Nat → Int) (w : World) (hfc : 256 ≤ fc)
    (ht : Rd .u8 w tb tx n (fun i => (T i : Int))) (hf : Hold .i32 w fb fo 256 f) (hap : Apart tb tx n fb fo 256) (h0 : f 0 < 0) :
    Calls Tryd.prog 65 #[.slice (some ⟨tb, tx, none⟩) n tc, .slice (some ⟨fb, fo, none⟩) 256 fc, bv] w fun e w' => e = .returned (.slice (some ⟨fb, fo, none⟩) 256 fc) ∧ ∃ f', Freq T 256 n f' ∧ Hold .i32 w' fb fo 256 f' ∧ Kept (In fb fo 256) w w' := by
  obtain ⟨x, hx⟩ : ∃ x, f 0 = x := ⟨_, rfl⟩
  have hc0 := (hf 0 (by omega)).1
  rw [hx] at hc0 h0
  simp only [Nat.add_zero] at hc0
  obtain ⟨w1, hcl, hf1, hk1⟩ := run_clear (P := Tryd.prog) (t := 43) w Tryd.underlying43 Tryd.zero21 fc (by omega : 0 < 256) hf
  have HF1 := Lib.hid hf1; clear hf1
  have HK1 := Lib.hid hk1; clear hk1
  have HT := Lib.hid (ht.kept HK1.out (fun j hj => hap.out hj)); clear ht hf hx
  have HTT := Lib.hid hT; clear hT

  have q1 := Tryd.neq77s
  have q2 := Tryd.eql77s
  go_enter Tryd.func65, Tryd.ntmps65
  go_wp2
  clear q1 q2 hc0 h0 hcl
  go_loopw [26] (fun i wr => ∃ (k : Nat) (f : Nat → Int), k ≤ n ∧ i = .int .i64 k ∧ Hold .i32 wr fb fo 256 f ∧ Rd .u8 wr tb tx n (fun i => (T i : Int)) ∧ Freq T 256 k f ∧ Kept (In fb fo 256) w wr) (fun i _ => n - (intOf i).toNat)
  case atStart => exact ⟨0, _, by omega, rfl, HF1.out, HT.out, Freq.init fun _ _ => rfl, HK1.out⟩
  case round =>
    obtain ⟨k, f, hk, rfl, hf, ht, hq, hkept⟩ := hrel
    clear HF1 HK1 HT
    by_cases hlt : k < n
    · have hct : wr.cell? ⟨tb, tx + k, none⟩ = some (.int .u8 (T k : Int)) := ht k hlt
      have hTk := HTT.out k hlt
      have hbd := hq.bd hTk
      have hst := hq.step hTk
      obtain ⟨hcf, hff⟩ := hf (T k) hTk
      have hf' := hf.set hTk (f (T k) + 1)
      have ht' := ht.set_other hap hTk (.int .i32 (f (T k) + 1))
      have hk' := hkept.set (.int .i32 (f (T k) + 1)) (show In fb fo 256 fb (fo + T k) from ⟨rfl, by omega, by omega⟩)
      clear hf ht hq hkept
      generalize f (T k) = y at *
      generalize hc : T k = c at *
      have HC := Lib.hid hc; clear hc
      have HF' := Lib.hid hf'; clear hf'
      have HT' := Lib.hid ht'; clear ht'
      have HK' := Lib.hid hk'; clear hk'
      have HS := Lib.hid hst; clear hst
      obtain ⟨hy0, hy1⟩ := hbd
      have hlt' : (k : Int) < (n : Int) := by omega
      have hTk' : (c : Int) < (256 : Int) := by omega
      go_wp2
      go_roundw
      case rel => exact ⟨k + 1, _, by omega, by go_num, HF'.out, HT'.out, HS.out, HK'.out⟩
      case measure => simp [intOf]; omega
    · obtain rfl : k = n := by omega
      have HF' := Lib.hid hf; clear hf
      have HT' := Lib.hid ht; clear ht
      have HK' := Lib.hid hkept; clear hkept
      have HS := Lib.hid hq; clear hq
      go_wp2
      go_ret
      exact ⟨rfl, _, HS.out, HF'.out, HK'.out⟩

/-- The counts are made. -/
theorem freq_8_32_nil (T : Nat → Nat) (n : Nat) (hT : ∀ i, i < n → T i < 256) (hn : n ≤ 1073741824) (tb tx tc : Nat) (fb fo fc : Nat) (f : Nat → Int) (w : World) (hfc : 256 ≤ fc)
    (ht : Rd .u8 w tb tx n (fun i => (T i : Int))) (hf : Hold .i32 w fb fo 256 f) (hap : Apart tb tx n fb fo 256) :
    Calls Tryd.prog 65 #[.slice (some ⟨tb, tx, none⟩) n tc, .slice none 0 0, .slice (some ⟨fb, fo, none⟩) 256 fc] w fun e w' => e = .returned (.slice (some ⟨fb, fo, none⟩) 256 fc) ∧ ∃ f', Freq T 256 n f' ∧ Hold .i32 w' fb fo 256 f' ∧ Kept (In fb fo 256) w w' := by
  obtain ⟨x, hx⟩ : ∃ x, f 0 = x := ⟨_, rfl⟩
  have hc0 := (hf 0 (by omega)).1
  rw [hx] at hc0
  simp only [Nat.add_zero] at hc0
  obtain ⟨w1, hcl, hf1, hk1⟩ := run_clear (P := Tryd.prog) (t := 43) w Tryd.underlying43 Tryd.zero21 fc (by omega : 0 < 256) hf
  have HF1 := Lib.hid hf1; clear hf1
  have HK1 := Lib.hid hk1; clear hk1
  have HT := Lib.hid (ht.kept HK1.out (fun j hj => hap.out hj)); clear ht hf hx
  have HTT := Lib.hid hT; clear hT

  have q1 := Tryd.neq77n
  have q2 := Tryd.eql77n
  go_enter Tryd.func65, Tryd.ntmps65
  go_wp2
  clear q1 q2 hc0 hcl
  go_loopw [26] (fun i wr => ∃ (k : Nat) (f : Nat → Int), k ≤ n ∧ i = .int .i64 k ∧ Hold .i32 wr fb fo 256 f ∧ Rd .u8 wr tb tx n (fun i => (T i : Int)) ∧ Freq T 256 k f ∧ Kept (In fb fo 256) w wr) (fun i _ => n - (intOf i).toNat)
  case atStart => exact ⟨0, _, by omega, rfl, HF1.out, HT.out, Freq.init fun _ _ => rfl, HK1.out⟩
  case round =>
    obtain ⟨k, f, hk, rfl, hf, ht, hq, hkept⟩ := hrel
    clear HF1 HK1 HT
    by_cases hlt : k < n
    · have hct : wr.cell? ⟨tb, tx + k, none⟩ = some (.int .u8 (T k : Int)) := ht k hlt
      have hTk := HTT.out k hlt
      have hbd := hq.bd hTk
      have hst := hq.step hTk
      obtain ⟨hcf, hff⟩ := hf (T k) hTk
      have hf' := hf.set hTk (f (T k) + 1)
      have ht' := ht.set_other hap hTk (.int .i32 (f (T k) + 1))
      have hk' := hkept.set (.int .i32 (f (T k) + 1)) (show In fb fo 256 fb (fo + T k) from ⟨rfl, by omega, by omega⟩)
      clear hf ht hq hkept
      generalize f (T k) = y at *
      generalize hc : T k = c at *
      have HC := Lib.hid hc; clear hc
      have HF' := Lib.hid hf'; clear hf'
      have HT' := Lib.hid ht'; clear ht'
      have HK' := Lib.hid hk'; clear hk'
      have HS := Lib.hid hst; clear hst
      obtain ⟨hy0, hy1⟩ := hbd
      have hlt' : (k : Int) < (n : Int) := by omega
      have hTk' : (c : Int) < (256 : Int) := by omega
      go_wp2
      go_roundw
      case rel => exact ⟨k + 1, _, by omega, by go_num, HF'.out, HT'.out, HS.out, HK'.out⟩
      case measure => simp [intOf]; omega
    · obtain rfl : k = n := by omega
      have HF' := Lib.hid hf; clear hf
      have HT' := Lib.hid ht; clear ht
      have HK' := Lib.hid hkept; clear hkept
      have HS := Lib.hid hq; clear hq
      go_wp2
      go_ret
      exact ⟨rfl, _, HS.out, HF'.out, HK'.out⟩

/-- The counts stand there already. -/
theorem freq_32_done (tv bv : Value) (M : Nat) (hM0 : 0 < M) (hM1 : M ≤ 1073741824) (fb fo fc : Nat) (f : Nat → Int) (w : World) (hf : Hold .i32 w fb fo M f) (h0 : 0 ≤ f 0) :
    Calls Tryd.prog 89 #[tv, .slice (some ⟨fb, fo, none⟩) M fc, bv] w fun e w' => e = .returned (.slice (some ⟨fb, fo, none⟩) M fc) ∧ w = w' := by
  obtain ⟨x, hx⟩ : ∃ x, f 0 = x := ⟨_, rfl⟩
  have hc := (hf 0 (by omega)).1
  rw [hx] at hc h0
  simp only [Nat.add_zero] at hc
  clear hf hx
  have hM2 : (0 : Int) < (M : Int) := by omega
  have q1 := Tryd.neq77s
  go_enter Tryd.func89, Tryd.ntmps89
  go_wp2
  go_ret
  exact ⟨rfl, rfl⟩

/-- The counts are made. -/
theorem freq_32_mk (T : Nat → Nat) (n : Nat) (M : Nat) (hM0 : 0 < M) (hM1 : M ≤ 1073741824) (hT : ∀ i, i < n → T i < M) (hn : n ≤ 1073741824) (tb tx tc : Nat) (fb fo fc : Nat) (bv : Value) (f : Nat → Int) (w : World) (hfc : M ≤ fc)
    (ht : Rd .i32 w tb tx n (fun i => (T i : Int))) (hf : Hold .i32 w fb fo M f) (hap : Apart tb tx n fb fo M) (h0 : f 0 < 0) :
    Calls Tryd.prog 89 #[.slice (some ⟨tb, tx, none⟩) n tc, .slice (some ⟨fb, fo, none⟩) M fc, bv] w fun e w' => e = .returned (.slice (some ⟨fb, fo, none⟩) M fc) ∧ ∃ f', Freq T M n f' ∧ Hold .i32 w' fb fo M f' ∧ Kept (In fb fo M) w w' := by
  obtain ⟨x, hx⟩ : ∃ x, f 0 = x := ⟨_, rfl⟩
  have hc0 := (hf 0 (by omega)).1
  rw [hx] at hc0 h0
  simp only [Nat.add_zero] at hc0
  obtain ⟨w1, hcl, hf1, hk1⟩ := run_clear (P := Tryd.prog) (t := 43) w Tryd.underlying43 Tryd.zero21 fc (by omega : 0 < M) hf
  have HF1 := Lib.hid hf1; clear hf1
  have HK1 := Lib.hid hk1; clear hk1
  have HT := Lib.hid (ht.kept HK1.out (fun j hj => hap.out hj)); clear ht hf hx
  have HTT := Lib.hid hT; clear hT
  have hM2 : (0 : Int) < (M : Int) := by omega
  have q1 := Tryd.neq77s
  have q2 := Tryd.eql77s
  go_enter Tryd.func89, Tryd.ntmps89
  go_wp2
  clear q1 q2 hc0 h0 hcl
  go_loopw [24] (fun i wr => ∃ (k : Nat) (f : Nat → Int), k ≤ n ∧ i = .int .i64 k ∧ Hold .i32 wr fb fo M f ∧ Rd .i32 wr tb tx n (fun i => (T i : Int)) ∧ Freq T M k f ∧ Kept (In fb fo M) w wr) (fun i _ => n - (intOf i).toNat)
  case atStart => exact ⟨0, _, by omega, rfl, HF1.out, HT.out, Freq.init fun _ _ => rfl, HK1.out⟩
  case round =>
    obtain ⟨k, f, hk, rfl, hf, ht, hq, hkept⟩ := hrel
    clear HF1 HK1 HT
    by_cases hlt : k < n
    · have hct : wr.cell? ⟨tb, tx + k, none⟩ = some (.int .i32 (T k : Int)) := ht k hlt
      have hTk := HTT.out k hlt
      have hbd := hq.bd hTk
      have hst := hq.step hTk
      obtain ⟨hcf, hff⟩ := hf (T k) hTk
      have hf' := hf.set hTk (f (T k) + 1)
      have ht' := ht.set_other hap hTk (.int .i32 (f (T k) + 1))
      have hk' := hkept.set (.int .i32 (f (T k) + 1)) (show In fb fo M fb (fo + T k) from ⟨rfl, by omega, by omega⟩)
      clear hf ht hq hkept
      generalize f (T k) = y at *
      generalize hc : T k = c at *
      have HC := Lib.hid hc; clear hc
      have HF' := Lib.hid hf'; clear hf'
      have HT' := Lib.hid ht'; clear ht'
      have HK' := Lib.hid hk'; clear hk'
      have HS := Lib.hid hst; clear hst
      obtain ⟨hy0, hy1⟩ := hbd
      have hlt' : (k : Int) < (n : Int) := by omega
      have hTk' : (c : Int) < (M : Int) := by omega
      go_wp2
      go_roundw
      case rel => exact ⟨k + 1, _, by omega, by go_num, HF'.out, HT'.out, HS.out, HK'.out⟩
      case measure => simp [intOf]; omega
    · obtain rfl : k = n := by omega
      have HF' := Lib.hid hf; clear hf
      have HT' := Lib.hid ht; clear ht
      have HK' := Lib.hid hkept; clear hkept
      have HS := Lib.hid hq; clear hq
      go_wp2
      go_ret
      exact ⟨rfl, _, HS.out, HF'.out, HK'.out⟩

/-- The counts are made. -/
theorem freq_32_nil (T : Nat → Nat) (n : Nat) (M : Nat) (hM0 : 0 < M) (hM1 : M ≤ 1073741824) (hT : ∀ i, i < n → T i < M) (hn : n ≤ 1073741824) (tb tx tc : Nat) (fb fo fc : Nat) (f : Nat → Int) (w : World) (hfc : M ≤ fc)
    (ht : Rd .i32 w tb tx n (fun i => (T i : Int))) (hf : Hold .i32 w fb fo M f) (hap : Apart tb tx n fb fo M) :
    Calls Tryd.prog 89 #[.slice (some ⟨tb, tx, none⟩) n tc, .slice none 0 0, .slice (some ⟨fb, fo, none⟩) M fc] w fun e w' => e = .returned (.slice (some ⟨fb, fo, none⟩) M fc) ∧ ∃ f', Freq T M n f' ∧ Hold .i32 w' fb fo M f' ∧ Kept (In fb fo M) w w' := by
  obtain ⟨x, hx⟩ : ∃ x, f 0 = x := ⟨_, rfl⟩
  have hc0 := (hf 0 (by omega)).1
  rw [hx] at hc0
  simp only [Nat.add_zero] at hc0
  obtain ⟨w1, hcl, hf1, hk1⟩ := run_clear (P := Tryd.prog) (t := 43) w Tryd.underlying43 Tryd.zero21 fc (by omega : 0 < M) hf
  have HF1 := Lib.hid hf1; clear hf1
  have HK1 := Lib.hid hk1; clear hk1
  have HT := Lib.hid (ht.kept HK1.out (fun j hj => hap.out hj)); clear ht hf hx
  have HTT := Lib.hid hT; clear hT
  have hM2 : (0 : Int) < (M : Int) := by omega
  have q1 := Tryd.neq77n
  have q2 := Tryd.eql77n
  go_enter Tryd.func89, Tryd.ntmps89
  go_wp2
  clear q1 q2 hc0 hcl
  go_loopw [24] (fun i wr => ∃ (k : Nat) (f : Nat → Int), k ≤ n ∧ i = .int .i64 k ∧ Hold .i32 wr fb fo M f ∧ Rd .i32 wr tb tx n (fun i => (T i : Int)) ∧ Freq T M k f ∧ Kept (In fb fo M) w wr) (fun i _ => n - (intOf i).toNat)
  case atStart => exact ⟨0, _, by omega, rfl, HF1.out, HT.out, Freq.init fun _ _ => rfl, HK1.out⟩
  case round =>
    obtain ⟨k, f, hk, rfl, hf, ht, hq, hkept⟩ := hrel
    clear HF1 HK1 HT
    by_cases hlt : k < n
    · have hct : wr.cell? ⟨tb, tx + k, none⟩ = some (.int .i32 (T k : Int)) := ht k hlt
      have hTk := HTT.out k hlt
      have hbd := hq.bd hTk
      have hst := hq.step hTk
      obtain ⟨hcf, hff⟩ := hf (T k) hTk
      have hf' := hf.set hTk (f (T k) + 1)
      have ht' := ht.set_other hap hTk (.int .i32 (f (T k) + 1))
      have hk' := hkept.set (.int .i32 (f (T k) + 1)) (show In fb fo M fb (fo + T k) from ⟨rfl, by omega, by omega⟩)
      clear hf ht hq hkept
      generalize f (T k) = y at *
      generalize hc : T k = c at *
      have HC := Lib.hid hc; clear hc
      have HF' := Lib.hid hf'; clear hf'
      have HT' := Lib.hid ht'; clear ht'
      have HK' := Lib.hid hk'; clear hk'
      have HS := Lib.hid hst; clear hst
      obtain ⟨hy0, hy1⟩ := hbd
      have hlt' : (k : Int) < (n : Int) := by omega
      have hTk' : (c : Int) < (M : Int) := by omega
      go_wp2
      go_roundw
      case rel => exact ⟨k + 1, _, by omega, by go_num, HF'.out, HT'.out, HS.out, HK'.out⟩
      case measure => simp [intOf]; omega
    · obtain rfl : k = n := by omega
      have HF' := Lib.hid hf; clear hf
      have HT' := Lib.hid ht; clear ht
      have HK' := Lib.hid hkept; clear hkept
      have HS := Lib.hid hq; clear hq
      go_wp2
      go_ret
      exact ⟨rfl, _, HS.out, HF'.out, HK'.out⟩

end Go.Proofs.YtoebcbmkkhbldaaDoor

/- The walks over bucketMin, bucketMax. -/
set_option linter.unusedVariables false
namespace Go.Proofs.YtoebcbmkkhbldaaDoor
open Go.RowKit Go.Mem Sais
set_option maxRecDepth 100000


/-- What is known of the slice of counts: it is nil; or its counts are right or marked as missing. -/
def FreqSt (T : Nat → Nat) (n M : Nat) (w : World) (fv : Value) (fb fo fm : Nat) : Prop :=
  (fm = 0 ∧ fv = .slice none 0 0) ∨ (fm = M ∧ ∃ (fc : Nat) (f : Nat → Int), M ≤ fc ∧ fv = .slice (some ⟨fb, fo, none⟩) M fc ∧ Hold .i32 w fb fo M f ∧ (f 0 < 0 ∨ Freq T M n f))
theorem FreqSt.kept {T : Nat → Nat} {n M : Nat} {w w' : World} {fv : Value} {fb fo fm : Nat} {S : Nat → Nat → Prop} (h : FreqSt T n M w fv fb fo fm) (hk : Kept S w w') (hs : ∀ j, j < fm → ¬ S fb (fo + j)) : FreqSt T n M w' fv fb fo fm := by
  rcases h with h | ⟨rfl, fc, f, h1, h2, h3, h4⟩
  · exact .inl h
  · exact .inr ⟨rfl, fc, f, h1, h2, h3.kept hk hs, h4⟩
theorem FreqSt.drewN {T : Nat → Nat} {n M : Nat} {w : World} {fv : Value} {fb fo fm : Nat} (h : FreqSt T n M w fv fb fo fm) (m : Nat) : FreqSt T n M (w.drewN m) fv fb fo fm := h
theorem FreqSt.set_other {T : Nat → Nat} {n M : Nat} {w : World} {fv : Value} {fb fo fm : Nat} (h : FreqSt T n M w fv fb fo fm) {b' off' n' : Nat} (ha : Apart fb fo fm b' off' n') {i : Nat} (hi : i < n') (v : Value) : FreqSt T n M (w.setCell ⟨b', off' + i, none⟩ v) fv fb fo fm := by
  rcases h with h | ⟨rfl, fc, f, h1, h2, h3, h4⟩
  · exact .inl h
  · exact .inr ⟨rfl, fc, f, h1, h2, h3.set_other ha hi v, h4⟩
/-- Two rows that may be written. -/
def Two (b o n b' o' n' : Nat) : Nat → Nat → Prop := fun x y => In b o n x y ∨ In b' o' n' x y
/-- Three rows that may be written. -/
def Three (b o n b' o' n' b'' o'' n'' : Nat) : Nat → Nat → Prop := fun x y => In b o n x y ∨ In b' o' n' x y ∨ In b'' o'' n'' x y

set_option maxHeartbeats 1000000 in
theorem bucketMin_8_32_f (T : Nat → Nat) (n : Nat) (hT : ∀ i, i < n → T i < 256) (hn : n ≤ 1073741824) (tv : Value) (fb fo fc bb bo bc : Nat) (f g : Nat → Int) (w : World) (hfc : 256 ≤ fc) (hbc : 256 ≤ bc)
    (hB : Hold .i32 w bb bo 256 g) (hFB : Apart fb fo 256 bb bo 256)
    (hcall : Calls Tryd.prog 65 #[tv, .slice (some ⟨fb, fo, none⟩) 256 fc, .slice (some ⟨bb, bo, none⟩) 256 bc] w fun e w' => e = .returned (.slice (some ⟨fb, fo, none⟩) 256 fc) ∧ ∃ f', Freq T 256 n f' ∧ Hold .i32 w' fb fo 256 f' ∧ Kept (In fb fo 256) w w') :
    Calls Tryd.prog 60 #[tv, .slice (some ⟨fb, fo, none⟩) 256 fc, .slice (some ⟨bb, bo, none⟩) 256 bc] w fun e w' => e = .returned (.tuple #[]) ∧ ∃ f' g' : Nat → Int, Freq T 256 n f' ∧ Hold .i32 w' fb fo 256 f' ∧ (∀ c, c < 256 → g' c = Sais.start T n c) ∧ Hold .i32 w' bb bo 256 g' ∧ Kept (Two fb fo 256 bb bo 256) w w' := by
  have HC := Lib.hid hcall; clear hcall
  have HB := Lib.hid hB; clear hB
  have HTT := Lib.hid hT; clear hT
  go_enter Tryd.func60, Tryd.ntmps60
  go_wp2_with (go_at_call 65; refine HC.out.mono ?_; rintro e w1 ⟨rfl, f, hq, hf, hk1⟩; have HF := Lib.hid hf; clear hf; have HK1 := Lib.hid hk1; clear hk1; have HQ := Lib.hid hq; clear hq)
  have HB1 := Lib.hid (HB.out.kept HK1.out (fun j hj => hFB.symm.out hj))
  clear HB HC
  go_loopw [6, 19] (fun tot i wr => ∃ (c : Nat) (t : Int) (g : Nat → Int), c ≤ 256 ∧ i = .int .i64 c ∧ tot = .int .i32 t ∧ t = Sais.start T n c ∧ Hold .i32 wr fb fo 256 f ∧ Hold .i32 wr bb bo 256 g ∧ (∀ d, d < c → g d = Sais.start T n d) ∧ Kept (Two fb fo 256 bb bo 256) w wr) (fun _ i _ => 256 - (intOf i).toNat)
  case atStart => exact ⟨0, 0, _, by omega, rfl, rfl, by rw [start_zero]; rfl, HF.out, HB1.out, fun d hd => by omega, HK1.out.mono fun _ _ _ h => .inl h⟩
  case round =>
    obtain ⟨c, t, g, hc, rfl, rfl, het, hf, hg, hst, hkept⟩ := hrel
    clear HB1 HF HK1
    by_cases hlt : c < 256
    · have hs1 := start_succ HQ.out hlt
      have hb1 := HQ.out.bd hlt
      have hb2 := start_le (T := T) (n := n) (c + 1)
      have hcf := (hf c hlt).1
      obtain ⟨hcg, hfg⟩ := hg c hlt
      generalize f c = x at *
      have ht0 : 0 ≤ t := by omega
      have htx : t + x ≤ n := by omega
      obtain ⟨hx0, hx1⟩ := hb1
      have hg' := hg.set hlt (t)
      have hf' := hf.set_other hFB hlt (.int .i32 (t))
      have hk' := hkept.set (.int .i32 (t)) (show Two fb fo 256 bb bo 256 bb (bo + c) from .inr ⟨rfl, by omega, by omega⟩)
      have hst' : ∀ d, d < c + 1 → upd g c (t) d = Sais.start T n d := by
        intro d hd
        by_cases e : d = c
        · subst e; rw [upd_same]; omega
        · rw [upd_other _ _ e]; exact hst d (by omega)
      have het' : t + x = Sais.start T n (c + 1) := by omega
      have HET := Lib.hid het'; clear het' het hs1 hb2
      have HF' := Lib.hid hf'; clear hf'
      have HG' := Lib.hid hg'; clear hg'
      have HK' := Lib.hid hk'; clear hk'
      have HS := Lib.hid hst'; clear hst' hst hf hg hkept
      have hlt' : (c : Int) < (256 : Int) := by omega
      go_wp2
      go_roundw
      case rel => exact ⟨c + 1, _, _, by omega, by go_num, rfl, HET.out, HF'.out, HG'.out, HS.out, HK'.out⟩
      case measure => simp [intOf]; omega
    · obtain rfl : c = 256 := by omega
      have HF' := Lib.hid hf; clear hf
      have HG' := Lib.hid hg; clear hg
      have HK' := Lib.hid hkept; clear hkept
      have HS := Lib.hid hst; clear hst het
      go_wp2
      go_end0
      exact ⟨rfl, _, _, HQ.out, HF'.out, HS.out, HG'.out, HK'.out⟩

set_option maxHeartbeats 1000000 in
theorem bucketMin_8_32_n (T : Nat → Nat) (n : Nat) (hT : ∀ i, i < n → T i < 256) (hn : n ≤ 1073741824) (tb tx tc bb bo bc : Nat) (g : Nat → Int) (w : World) (hbc : 256 ≤ bc)
    (ht : Rd .u8 w tb tx n (fun i => (T i : Int))) (hB : Hold .i32 w bb bo 256 g) (hap : Apart tb tx n bb bo 256) :
    Calls Tryd.prog 60 #[.slice (some ⟨tb, tx, none⟩) n tc, .slice none 0 0, .slice (some ⟨bb, bo, none⟩) 256 bc] w fun e w' => e = .returned (.tuple #[]) ∧ ∃ g' : Nat → Int, (∀ c, c < 256 → g' c = Sais.start T n c) ∧ Hold .i32 w' bb bo 256 g' ∧ Kept (In bb bo 256) w w' := by
  have HC := Lib.hid (freq_8_32_nil T n hT hn tb tx tc bb bo bc g w hbc ht hB hap)
  clear ht hB hT
  go_enter Tryd.func60, Tryd.ntmps60
  go_wp2_with (go_at_call 65; refine HC.out.mono ?_; rintro e w1 ⟨rfl, f, hq, hf, hk1⟩; have HF := Lib.hid hf; clear hf; have HK1 := Lib.hid hk1; clear hk1; have HQ := Lib.hid hq; clear hq)
  clear HC
  go_loopw [6, 19] (fun tot i wr => ∃ (c : Nat) (t : Int) (g : Nat → Int), c ≤ 256 ∧ i = .int .i64 c ∧ tot = .int .i32 t ∧ t = Sais.start T n c ∧ Hold .i32 wr bb bo 256 g ∧ (∀ d, d < c → g d = Sais.start T n d) ∧ (∀ d, c ≤ d → g d = f d) ∧ Kept (In bb bo 256) w wr) (fun _ i _ => 256 - (intOf i).toNat)
  case atStart => exact ⟨0, 0, _, by omega, rfl, rfl, by rw [start_zero]; rfl, HF.out, fun d hd => by omega, fun _ _ => rfl, HK1.out⟩
  case round =>
    obtain ⟨c, t, g, hc, rfl, rfl, het, hg, hst, hrest, hkept⟩ := hrel
    clear HF HK1
    by_cases hlt : c < 256
    · have hs1 := start_succ HQ.out hlt
      have hb1 := HQ.out.bd hlt
      have hb2 := start_le (T := T) (n := n) (c + 1)
      obtain ⟨hcg, hfg⟩ := hg c hlt
      rw [hrest c (Nat.le_refl _)] at hcg
      obtain ⟨x, hx⟩ : ∃ x, f c = x := ⟨_, rfl⟩
      rw [hx] at hcg hb1 hs1
      have ht0 : 0 ≤ t := by omega
      have htx : t + x ≤ n := by omega
      obtain ⟨hx0, hx1⟩ := hb1
      have hg' := hg.set hlt (t)
      have hk' := hkept.set (.int .i32 (t)) (show In bb bo 256 bb (bo + c) from ⟨rfl, by omega, by omega⟩)
      have hst' : ∀ d, d < c + 1 → upd g c (t) d = Sais.start T n d := by
        intro d hd
        by_cases e : d = c
        · subst e; rw [upd_same]; omega
        · rw [upd_other _ _ e]; exact hst d (by omega)
      have hrest' : ∀ d, c + 1 ≤ d → upd g c (t) d = f d := fun d hd => by rw [upd_other _ _ (by omega)]; exact hrest d (by omega)
      have het' : t + x = Sais.start T n (c + 1) := by omega
      have HET := Lib.hid het'; clear het' het hs1 hb2 hx
      have HR := Lib.hid hrest'; clear hrest hrest'
      have HG' := Lib.hid hg'; clear hg'
      have HK' := Lib.hid hk'; clear hk'
      have HS := Lib.hid hst'; clear hst' hst hg hkept
      have hlt' : (c : Int) < (256 : Int) := by omega
      go_wp2
      go_roundw
      case rel => exact ⟨c + 1, _, _, by omega, by go_num, rfl, HET.out, HG'.out, HS.out, HR.out, HK'.out⟩
      case measure => simp [intOf]; omega
    · obtain rfl : c = 256 := by omega
      have HG' := Lib.hid hg; clear hg
      have HK' := Lib.hid hkept; clear hkept
      have HS := Lib.hid hst; clear hst het hrest
      go_wp2
      go_end0
      exact ⟨rfl, _, HS.out, HG'.out, HK'.out⟩

/-- THE CONTRACT. -/
theorem bucketMin_8_32 (T : Nat → Nat) (n : Nat) (hT : ∀ i, i < n → T i < 256) (hn : n ≤ 1073741824) (tb tx tc fb fo fm bb bo bc : Nat) (fv : Value) (g : Nat → Int) (w : World) (hbc : 256 ≤ bc)
    (ht : Rd .u8 w tb tx n (fun i => (T i : Int))) (hF : FreqSt T n 256 w fv fb fo fm) (hB : Hold .i32 w bb bo 256 g) (hTF : Apart tb tx n fb fo fm) (hTB : Apart tb tx n bb bo 256) (hFB : Apart fb fo fm bb bo 256) :
    Calls Tryd.prog 60 #[.slice (some ⟨tb, tx, none⟩) n tc, fv, .slice (some ⟨bb, bo, none⟩) 256 bc] w fun e w' => e = .returned (.tuple #[]) ∧ ∃ g' : Nat → Int, (∀ c, c < 256 → g' c = Sais.start T n c) ∧ Hold .i32 w' bb bo 256 g' ∧ FreqSt T n 256 w' fv fb fo fm ∧ Kept (Two fb fo fm bb bo 256) w w' := by
  rcases hF with ⟨rfl, rfl⟩ | ⟨hfm, fc, f, h1, rfl, h3, h4⟩
  · refine (bucketMin_8_32_n T n hT hn tb tx tc bb bo bc g w hbc ht hB hTB).mono fun e w' ⟨he, g', a, b, c⟩ => ⟨he, g', a, b, .inl ⟨rfl, rfl⟩, c.mono fun _ _ _ h => .inr h⟩
  · have hfm' := hfm.symm
    subst hfm'
    have hcall : Calls Tryd.prog 65 #[.slice (some ⟨tb, tx, none⟩) n tc, .slice (some ⟨fb, fo, none⟩) 256 fc, .slice (some ⟨bb, bo, none⟩) 256 bc] w fun e w' => e = .returned (.slice (some ⟨fb, fo, none⟩) 256 fc) ∧ ∃ f', Freq T 256 n f' ∧ Hold .i32 w' fb fo 256 f' ∧ Kept (In fb fo 256) w w' := by
      by_cases h0 : f 0 < 0
      · exact freq_8_32_mk T n hT hn tb tx tc fb fo fc _ f w h1 ht h3 hTF h0
      · have hq := h4.resolve_left h0
        refine (freq_8_32_done _ _ fb fo fc f w h3 (by omega)).mono fun e w' ⟨he, hw⟩ => ?_
        subst hw
        exact ⟨he, f, hq, h3, Kept.refl _ _⟩
    refine (bucketMin_8_32_f T n hT hn _ fb fo fc bb bo bc f g w h1 hbc hB hFB hcall).mono fun e w' ⟨he, f', g', a, b, c, d, k⟩ => ⟨he, g', c, d, .inr ⟨rfl, fc, f', h1, rfl, b, .inr a⟩, k⟩

set_option maxHeartbeats 1000000 in
theorem bucketMax_8_32_f (T : Nat → Nat) (n : Nat) (hT : ∀ i, i < n → T i < 256) (hn : n ≤ 1073741824) (tv : Value) (fb fo fc bb bo bc : Nat) (f g : Nat → Int) (w : World) (hfc : 256 ≤ fc) (hbc : 256 ≤ bc)
    (hB : Hold .i32 w bb bo 256 g) (hFB : Apart fb fo 256 bb bo 256)
    (hcall : Calls Tryd.prog 65 #[tv, .slice (some ⟨fb, fo, none⟩) 256 fc, .slice (some ⟨bb, bo, none⟩) 256 bc] w fun e w' => e = .returned (.slice (some ⟨fb, fo, none⟩) 256 fc) ∧ ∃ f', Freq T 256 n f' ∧ Hold .i32 w' fb fo 256 f' ∧ Kept (In fb fo 256) w w') :
    Calls Tryd.prog 59 #[tv, .slice (some ⟨fb, fo, none⟩) 256 fc, .slice (some ⟨bb, bo, none⟩) 256 bc] w fun e w' => e = .returned (.tuple #[]) ∧ ∃ f' g' : Nat → Int, Freq T 256 n f' ∧ Hold .i32 w' fb fo 256 f' ∧ (∀ c, c < 256 → g' c = Sais.start T n (c + 1)) ∧ Hold .i32 w' bb bo 256 g' ∧ Kept (Two fb fo 256 bb bo 256) w w' := by
  have HC := Lib.hid hcall; clear hcall
  have HB := Lib.hid hB; clear hB
  have HTT := Lib.hid hT; clear hT
  go_enter Tryd.func59, Tryd.ntmps59
  go_wp2_with (go_at_call 65; refine HC.out.mono ?_; rintro e w1 ⟨rfl, f, hq, hf, hk1⟩; have HF := Lib.hid hf; clear hf; have HK1 := Lib.hid hk1; clear hk1; have HQ := Lib.hid hq; clear hq)
  have HB1 := Lib.hid (HB.out.kept HK1.out (fun j hj => hFB.symm.out hj))
  clear HB HC
  go_loopw [6, 19] (fun tot i wr => ∃ (c : Nat) (t : Int) (g : Nat → Int), c ≤ 256 ∧ i = .int .i64 c ∧ tot = .int .i32 t ∧ t = Sais.start T n c ∧ Hold .i32 wr fb fo 256 f ∧ Hold .i32 wr bb bo 256 g ∧ (∀ d, d < c → g d = Sais.start T n (d + 1)) ∧ Kept (Two fb fo 256 bb bo 256) w wr) (fun _ i _ => 256 - (intOf i).toNat)
  case atStart => exact ⟨0, 0, _, by omega, rfl, rfl, by rw [start_zero]; rfl, HF.out, HB1.out, fun d hd => by omega, HK1.out.mono fun _ _ _ h => .inl h⟩
  case round =>
    obtain ⟨c, t, g, hc, rfl, rfl, het, hf, hg, hst, hkept⟩ := hrel
    clear HB1 HF HK1
    by_cases hlt : c < 256
    · have hs1 := start_succ HQ.out hlt
      have hb1 := HQ.out.bd hlt
      have hb2 := start_le (T := T) (n := n) (c + 1)
      have hcf := (hf c hlt).1
      obtain ⟨hcg, hfg⟩ := hg c hlt
      generalize f c = x at *
      have ht0 : 0 ≤ t := by omega
      have htx : t + x ≤ n := by omega
      obtain ⟨hx0, hx1⟩ := hb1
      have hg' := hg.set hlt (t + x)
      have hf' := hf.set_other hFB hlt (.int .i32 (t + x))
      have hk' := hkept.set (.int .i32 (t + x)) (show Two fb fo 256 bb bo 256 bb (bo + c) from .inr ⟨rfl, by omega, by omega⟩)
      have hst' : ∀ d, d < c + 1 → upd g c (t + x) d = Sais.start T n (d + 1) := by
        intro d hd
        by_cases e : d = c
        · subst e; rw [upd_same]; omega
        · rw [upd_other _ _ e]; exact hst d (by omega)
      have het' : t + x = Sais.start T n (c + 1) := by omega
      have HET := Lib.hid het'; clear het' het hs1 hb2
      have HF' := Lib.hid hf'; clear hf'
      have HG' := Lib.hid hg'; clear hg'
      have HK' := Lib.hid hk'; clear hk'
      have HS := Lib.hid hst'; clear hst' hst hf hg hkept
      have hlt' : (c : Int) < (256 : Int) := by omega
      go_wp2
      go_roundw
      case rel => exact ⟨c + 1, _, _, by omega, by go_num, rfl, HET.out, HF'.out, HG'.out, HS.out, HK'.out⟩
      case measure => simp [intOf]; omega
    · obtain rfl : c = 256 := by omega
      have HF' := Lib.hid hf; clear hf
      have HG' := Lib.hid hg; clear hg
      have HK' := Lib.hid hkept; clear hkept
      have HS := Lib.hid hst; clear hst het
      go_wp2
      go_end0
      exact ⟨rfl, _, _, HQ.out, HF'.out, HS.out, HG'.out, HK'.out⟩

set_option maxHeartbeats 1000000 in
theorem bucketMax_8_32_n (T : Nat → Nat) (n : Nat) (hT : ∀ i, i < n → T i < 256) (hn : n ≤ 1073741824) (tb tx tc bb bo bc : Nat) (g : Nat → Int) (w : World) (hbc : 256 ≤ bc)
    (ht : Rd .u8 w tb tx n (fun i => (T i : Int))) (hB : Hold .i32 w bb bo 256 g) (hap : Apart tb tx n bb bo 256) :
    Calls Tryd.prog 59 #[.slice (some ⟨tb, tx, none⟩) n tc, .slice none 0 0, .slice (some ⟨bb, bo, none⟩) 256 bc] w fun e w' => e = .returned (.tuple #[]) ∧ ∃ g' : Nat → Int, (∀ c, c < 256 → g' c = Sais.start T n (c + 1)) ∧ Hold .i32 w' bb bo 256 g' ∧ Kept (In bb bo 256) w w' := by
  have HC := Lib.hid (freq_8_32_nil T n hT hn tb tx tc bb bo bc g w hbc ht hB hap)
  clear ht hB hT
  go_enter Tryd.func59, Tryd.ntmps59
  go_wp2_with (go_at_call 65; refine HC.out.mono ?_; rintro e w1 ⟨rfl, f, hq, hf, hk1⟩; have HF := Lib.hid hf; clear hf; have HK1 := Lib.hid hk1; clear hk1; have HQ := Lib.hid hq; clear hq)
  clear HC
  go_loopw [6, 19] (fun tot i wr => ∃ (c : Nat) (t : Int) (g : Nat → Int), c ≤ 256 ∧ i = .int .i64 c ∧ tot = .int .i32 t ∧ t = Sais.start T n c ∧ Hold .i32 wr bb bo 256 g ∧ (∀ d, d < c → g d = Sais.start T n (d + 1)) ∧ (∀ d, c ≤ d → g d = f d) ∧ Kept (In bb bo 256) w wr) (fun _ i _ => 256 - (intOf i).toNat)
  case atStart => exact ⟨0, 0, _, by omega, rfl, rfl, by rw [start_zero]; rfl, HF.out, fun d hd => by omega, fun _ _ => rfl, HK1.out⟩
  case round =>
    obtain ⟨c, t, g, hc, rfl, rfl, het, hg, hst, hrest, hkept⟩ := hrel
    clear HF HK1
    by_cases hlt : c < 256
    · have hs1 := start_succ HQ.out hlt
      have hb1 := HQ.out.bd hlt
      have hb2 := start_le (T := T) (n := n) (c + 1)
      obtain ⟨hcg, hfg⟩ := hg c hlt
      rw [hrest c (Nat.le_refl _)] at hcg
      obtain ⟨x, hx⟩ : ∃ x, f c = x := ⟨_, rfl⟩
      rw [hx] at hcg hb1 hs1
      have ht0 : 0 ≤ t := by omega
      have htx : t + x ≤ n := by omega
      obtain ⟨hx0, hx1⟩ := hb1
      have hg' := hg.set hlt (t + x)
      have hk' := hkept.set (.int .i32 (t + x)) (show In bb bo 256 bb (bo + c) from ⟨rfl, by omega, by omega⟩)
      have hst' : ∀ d, d < c + 1 → upd g c (t + x) d = Sais.start T n (d + 1) := by
        intro d hd
        by_cases e : d = c
        · subst e; rw [upd_same]; omega
        · rw [upd_other _ _ e]; exact hst d (by omega)
      have hrest' : ∀ d, c + 1 ≤ d → upd g c (t + x) d = f d := fun d hd => by rw [upd_other _ _ (by omega)]; exact hrest d (by omega)
      have het' : t + x = Sais.start T n (c + 1) := by omega
      have HET := Lib.hid het'; clear het' het hs1 hb2 hx
      have HR := Lib.hid hrest'; clear hrest hrest'
      have HG' := Lib.hid hg'; clear hg'
      have HK' := Lib.hid hk'; clear hk'
      have HS := Lib.hid hst'; clear hst' hst hg hkept
      have hlt' : (c : Int) < (256 : Int) := by omega
      go_wp2
      go_roundw
      case rel => exact ⟨c + 1, _, _, by omega, by go_num, rfl, HET.out, HG'.out, HS.out, HR.out, HK'.out⟩
      case measure => simp [intOf]; omega
    · obtain rfl : c = 256 := by omega
      have HG' := Lib.hid hg; clear hg
      have HK' := Lib.hid hkept; clear hkept
      have HS := Lib.hid hst; clear hst het hrest
      go_wp2
      go_end0
      exact ⟨rfl, _, HS.out, HG'.out, HK'.out⟩

/-- THE CONTRACT. -/
theorem bucketMax_8_32 (T : Nat → Nat) (n : Nat) (hT : ∀ i, i < n → T i < 256) (hn : n ≤ 1073741824) (tb tx tc fb fo fm bb bo bc : Nat) (fv : Value) (g : Nat → Int) (w : World) (hbc : 256 ≤ bc)
    (ht : Rd .u8 w tb tx n (fun i => (T i : Int))) (hF : FreqSt T n 256 w fv fb fo fm) (hB : Hold .i32 w bb bo 256 g) (hTF : Apart tb tx n fb fo fm) (hTB : Apart tb tx n bb bo 256) (hFB : Apart fb fo fm bb bo 256) :
    Calls Tryd.prog 59 #[.slice (some ⟨tb, tx, none⟩) n tc, fv, .slice (some ⟨bb, bo, none⟩) 256 bc] w fun e w' => e = .returned (.tuple #[]) ∧ ∃ g' : Nat → Int, (∀ c, c < 256 → g' c = Sais.start T n (c + 1)) ∧ Hold .i32 w' bb bo 256 g' ∧ FreqSt T n 256 w' fv fb fo fm ∧ Kept (Two fb fo fm bb bo 256) w w' := by
  rcases hF with ⟨rfl, rfl⟩ | ⟨hfm, fc, f, h1, rfl, h3, h4⟩
  · refine (bucketMax_8_32_n T n hT hn tb tx tc bb bo bc g w hbc ht hB hTB).mono fun e w' ⟨he, g', a, b, c⟩ => ⟨he, g', a, b, .inl ⟨rfl, rfl⟩, c.mono fun _ _ _ h => .inr h⟩
  · have hfm' := hfm.symm
    subst hfm'
    have hcall : Calls Tryd.prog 65 #[.slice (some ⟨tb, tx, none⟩) n tc, .slice (some ⟨fb, fo, none⟩) 256 fc, .slice (some ⟨bb, bo, none⟩) 256 bc] w fun e w' => e = .returned (.slice (some ⟨fb, fo, none⟩) 256 fc) ∧ ∃ f', Freq T 256 n f' ∧ Hold .i32 w' fb fo 256 f' ∧ Kept (In fb fo 256) w w' := by
      by_cases h0 : f 0 < 0
      · exact freq_8_32_mk T n hT hn tb tx tc fb fo fc _ f w h1 ht h3 hTF h0
      · have hq := h4.resolve_left h0
        refine (freq_8_32_done _ _ fb fo fc f w h3 (by omega)).mono fun e w' ⟨he, hw⟩ => ?_
        subst hw
        exact ⟨he, f, hq, h3, Kept.refl _ _⟩
    refine (bucketMax_8_32_f T n hT hn _ fb fo fc bb bo bc f g w h1 hbc hB hFB hcall).mono fun e w' ⟨he, f', g', a, b, c, d, k⟩ => ⟨he, g', c, d, .inr ⟨rfl, fc, f', h1, rfl, b, .inr a⟩, k⟩

set_option maxHeartbeats 1000000 in
theorem bucketMin_32_f (T : Nat → Nat) (n : Nat) (M : Nat) (hM0 : 0 < M) (hM1 : M ≤ 1073741824) (hT : ∀ i, i < n → T i < M) (hn : n ≤ 1073741824) (tv : Value) (fb fo fc bb bo bc : Nat) (f g : Nat → Int) (w : World) (hfc : M ≤ fc) (hbc : M ≤ bc)
    (hB : Hold .i32 w bb bo M g) (hFB : Apart fb fo M bb bo M)
    (hcall : Calls Tryd.prog 89 #[tv, .slice (some ⟨fb, fo, none⟩) M fc, .slice (some ⟨bb, bo, none⟩) M bc] w fun e w' => e = .returned (.slice (some ⟨fb, fo, none⟩) M fc) ∧ ∃ f', Freq T M n f' ∧ Hold .i32 w' fb fo M f' ∧ Kept (In fb fo M) w w') :
    Calls Tryd.prog 86 #[tv, .slice (some ⟨fb, fo, none⟩) M fc, .slice (some ⟨bb, bo, none⟩) M bc] w fun e w' => e = .returned (.tuple #[]) ∧ ∃ f' g' : Nat → Int, Freq T M n f' ∧ Hold .i32 w' fb fo M f' ∧ (∀ c, c < M → g' c = Sais.start T n c) ∧ Hold .i32 w' bb bo M g' ∧ Kept (Two fb fo M bb bo M) w w' := by
  have HC := Lib.hid hcall; clear hcall
  have HB := Lib.hid hB; clear hB
  have HTT := Lib.hid hT; clear hT
  have hM2 : (0 : Int) < (M : Int) := by omega
  go_enter Tryd.func86, Tryd.ntmps86
  go_wp2_with (go_at_call 89; refine HC.out.mono ?_; rintro e w1 ⟨rfl, f, hq, hf, hk1⟩; have HF := Lib.hid hf; clear hf; have HK1 := Lib.hid hk1; clear hk1; have HQ := Lib.hid hq; clear hq)
  have HB1 := Lib.hid (HB.out.kept HK1.out (fun j hj => hFB.symm.out hj))
  clear HB HC
  go_loopw [6, 15] (fun tot i wr => ∃ (c : Nat) (t : Int) (g : Nat → Int), c ≤ M ∧ i = .int .i64 c ∧ tot = .int .i32 t ∧ t = Sais.start T n c ∧ Hold .i32 wr fb fo M f ∧ Hold .i32 wr bb bo M g ∧ (∀ d, d < c → g d = Sais.start T n d) ∧ Kept (Two fb fo M bb bo M) w wr) (fun _ i _ => M - (intOf i).toNat)
  case atStart => exact ⟨0, 0, _, by omega, rfl, rfl, by rw [start_zero]; rfl, HF.out, HB1.out, fun d hd => by omega, HK1.out.mono fun _ _ _ h => .inl h⟩
  case round =>
    obtain ⟨c, t, g, hc, rfl, rfl, het, hf, hg, hst, hkept⟩ := hrel
    clear HB1 HF HK1
    by_cases hlt : c < M
    · have hs1 := start_succ HQ.out hlt
      have hb1 := HQ.out.bd hlt
      have hb2 := start_le (T := T) (n := n) (c + 1)
      have hcf := (hf c hlt).1
      obtain ⟨hcg, hfg⟩ := hg c hlt
      generalize f c = x at *
      have ht0 : 0 ≤ t := by omega
      have htx : t + x ≤ n := by omega
      obtain ⟨hx0, hx1⟩ := hb1
      have hg' := hg.set hlt (t)
      have hf' := hf.set_other hFB hlt (.int .i32 (t))
      have hk' := hkept.set (.int .i32 (t)) (show Two fb fo M bb bo M bb (bo + c) from .inr ⟨rfl, by omega, by omega⟩)
      have hst' : ∀ d, d < c + 1 → upd g c (t) d = Sais.start T n d := by
        intro d hd
        by_cases e : d = c
        · subst e; rw [upd_same]; omega
        · rw [upd_other _ _ e]; exact hst d (by omega)
      have het' : t + x = Sais.start T n (c + 1) := by omega
      have HET := Lib.hid het'; clear het' het hs1 hb2
      have HF' := Lib.hid hf'; clear hf'
      have HG' := Lib.hid hg'; clear hg'
      have HK' := Lib.hid hk'; clear hk'
      have HS := Lib.hid hst'; clear hst' hst hf hg hkept
      have hlt' : (c : Int) < (M : Int) := by omega
      go_wp2
      go_roundw
      case rel => exact ⟨c + 1, _, _, by omega, by go_num, rfl, HET.out, HF'.out, HG'.out, HS.out, HK'.out⟩
      case measure => simp [intOf]; omega
    · obtain rfl : c = M := by omega
      have HF' := Lib.hid hf; clear hf
      have HG' := Lib.hid hg; clear hg
      have HK' := Lib.hid hkept; clear hkept
      have HS := Lib.hid hst; clear hst het
      go_wp2
      go_end0
      exact ⟨rfl, _, _, HQ.out, HF'.out, HS.out, HG'.out, HK'.out⟩

set_option maxHeartbeats 1000000 in
theorem bucketMin_32_n (T : Nat → Nat) (n : Nat) (M : Nat) (hM0 : 0 < M) (hM1 : M ≤ 1073741824) (hT : ∀ i, i < n → T i < M) (hn : n ≤ 1073741824) (tb tx tc bb bo bc : Nat) (g : Nat → Int) (w : World) (hbc : M ≤ bc)
    (ht : Rd .i32 w tb tx n (fun i => (T i : Int))) (hB : Hold .i32 w bb bo M g) (hap : Apart tb tx n bb bo M) :
    Calls Tryd.prog 86 #[.slice (some ⟨tb, tx, none⟩) n tc, .slice none 0 0, .slice (some ⟨bb, bo, none⟩) M bc] w fun e w' => e = .returned (.tuple #[]) ∧ ∃ g' : Nat → Int, (∀ c, c < M → g' c = Sais.start T n c) ∧ Hold .i32 w' bb bo M g' ∧ Kept (In bb bo M) w w' := by
  have HC := Lib.hid (freq_32_nil T n M hM0 hM1 hT hn tb tx tc bb bo bc g w hbc ht hB hap)
  clear ht hB hT
  have hM2 : (0 : Int) < (M : Int) := by omega
  go_enter Tryd.func86, Tryd.ntmps86
  go_wp2_with (go_at_call 89; refine HC.out.mono ?_; rintro e w1 ⟨rfl, f, hq, hf, hk1⟩; have HF := Lib.hid hf; clear hf; have HK1 := Lib.hid hk1; clear hk1; have HQ := Lib.hid hq; clear hq)
  clear HC
  go_loopw [6, 15] (fun tot i wr => ∃ (c : Nat) (t : Int) (g : Nat → Int), c ≤ M ∧ i = .int .i64 c ∧ tot = .int .i32 t ∧ t = Sais.start T n c ∧ Hold .i32 wr bb bo M g ∧ (∀ d, d < c → g d = Sais.start T n d) ∧ (∀ d, c ≤ d → g d = f d) ∧ Kept (In bb bo M) w wr) (fun _ i _ => M - (intOf i).toNat)
  case atStart => exact ⟨0, 0, _, by omega, rfl, rfl, by rw [start_zero]; rfl, HF.out, fun d hd => by omega, fun _ _ => rfl, HK1.out⟩
  case round =>
    obtain ⟨c, t, g, hc, rfl, rfl, het, hg, hst, hrest, hkept⟩ := hrel
    clear HF HK1
    by_cases hlt : c < M
    · have hs1 := start_succ HQ.out hlt
      have hb1 := HQ.out.bd hlt
      have hb2 := start_le (T := T) (n := n) (c + 1)
      obtain ⟨hcg, hfg⟩ := hg c hlt
      rw [hrest c (Nat.le_refl _)] at hcg
      obtain ⟨x, hx⟩ : ∃ x, f c = x := ⟨_, rfl⟩
      rw [hx] at hcg hb1 hs1
      have ht0 : 0 ≤ t := by omega
      have htx : t + x ≤ n := by omega
      obtain ⟨hx0, hx1⟩ := hb1
      have hg' := hg.set hlt (t)
      have hk' := hkept.set (.int .i32 (t)) (show In bb bo M bb (bo + c) from ⟨rfl, by omega, by omega⟩)
      have hst' : ∀ d, d < c + 1 → upd g c (t) d = Sais.start T n d := by
        intro d hd
        by_cases e : d = c
        · subst e; rw [upd_same]; omega
        · rw [upd_other _ _ e]; exact hst d (by omega)
      have hrest' : ∀ d, c + 1 ≤ d → upd g c (t) d = f d := fun d hd => by rw [upd_other _ _ (by omega)]; exact hrest d (by omega)
      have het' : t + x = Sais.start T n (c + 1) := by omega
      have HET := Lib.hid het'; clear het' het hs1 hb2 hx
      have HR := Lib.hid hrest'; clear hrest hrest'
      have HG' := Lib.hid hg'; clear hg'
      have HK' := Lib.hid hk'; clear hk'
      have HS := Lib.hid hst'; clear hst' hst hg hkept
      have hlt' : (c : Int) < (M : Int) := by omega
      go_wp2
      go_roundw
      case rel => exact ⟨c + 1, _, _, by omega, by go_num, rfl, HET.out, HG'.out, HS.out, HR.out, HK'.out⟩
      case measure => simp [intOf]; omega
    · obtain rfl : c = M := by omega
      have HG' := Lib.hid hg; clear hg
      have HK' := Lib.hid hkept; clear hkept
      have HS := Lib.hid hst; clear hst het hrest
      go_wp2
      go_end0
      exact ⟨rfl, _, HS.out, HG'.out, HK'.out⟩

/-- THE CONTRACT. -/
theorem bucketMin_32 (T : Nat → Nat) (n : Nat) (M : Nat) (hM0 : 0 < M) (hM1 : M ≤ 1073741824) (hT : ∀ i, i < n → T i < M) (hn : n ≤ 1073741824) (tb tx tc fb fo fm bb bo bc : Nat) (fv : Value) (g : Nat → Int) (w : World) (hbc : M ≤ bc)
    (ht : Rd .i32 w tb tx n (fun i => (T i : Int))) (hF : FreqSt T n M w fv fb fo fm) (hB : Hold .i32 w bb bo M g) (hTF : Apart tb tx n fb fo fm) (hTB : Apart tb tx n bb bo M) (hFB : Apart fb fo fm bb bo M) :
    Calls Tryd.prog 86 #[.slice (some ⟨tb, tx, none⟩) n tc, fv, .slice (some ⟨bb, bo, none⟩) M bc] w fun e w' => e = .returned (.tuple #[]) ∧ ∃ g' : Nat → Int, (∀ c, c < M → g' c = Sais.start T n c) ∧ Hold .i32 w' bb bo M g' ∧ FreqSt T n M w' fv fb fo fm ∧ Kept (Two fb fo fm bb bo M) w w' := by
  rcases hF with ⟨rfl, rfl⟩ | ⟨hfm, fc, f, h1, rfl, h3, h4⟩
  · refine (bucketMin_32_n T n M hM0 hM1 hT hn tb tx tc bb bo bc g w hbc ht hB hTB).mono fun e w' ⟨he, g', a, b, c⟩ => ⟨he, g', a, b, .inl ⟨rfl, rfl⟩, c.mono fun _ _ _ h => .inr h⟩
  · have hfm' := hfm.symm
    subst hfm'
    have hcall : Calls Tryd.prog 89 #[.slice (some ⟨tb, tx, none⟩) n tc, .slice (some ⟨fb, fo, none⟩) M fc, .slice (some ⟨bb, bo, none⟩) M bc] w fun e w' => e = .returned (.slice (some ⟨fb, fo, none⟩) M fc) ∧ ∃ f', Freq T M n f' ∧ Hold .i32 w' fb fo M f' ∧ Kept (In fb fo M) w w' := by
      by_cases h0 : f 0 < 0
      · exact freq_32_mk T n M hM0 hM1 hT hn tb tx tc fb fo fc _ f w h1 ht h3 hTF h0
      · have hq := h4.resolve_left h0
        refine (freq_32_done _ _ M hM0 hM1 fb fo fc f w h3 (by omega)).mono fun e w' ⟨he, hw⟩ => ?_
        subst hw
        exact ⟨he, f, hq, h3, Kept.refl _ _⟩
    refine (bucketMin_32_f T n M hM0 hM1 hT hn _ fb fo fc bb bo bc f g w h1 hbc hB hFB hcall).mono fun e w' ⟨he, f', g', a, b, c, d, k⟩ => ⟨he, g', c, d, .inr ⟨rfl, fc, f', h1, rfl, b, .inr a⟩, k⟩

set_option maxHeartbeats 1000000 in
theorem bucketMax_32_f (T : Nat → Nat) (n : Nat) (M : Nat) (hM0 : 0 < M) (hM1 : M ≤ 1073741824) (hT : ∀ i, i < n → T i < M) (hn : n ≤ 1073741824) (tv : Value) (fb fo fc bb bo bc : Nat) (f g : Nat → Int) (w : World) (hfc : M ≤ fc) (hbc : M ≤ bc)
    (hB : Hold .i32 w bb bo M g) (hFB : Apart fb fo M bb bo M)
    (hcall : Calls Tryd.prog 89 #[tv, .slice (some ⟨fb, fo, none⟩) M fc, .slice (some ⟨bb, bo, none⟩) M bc] w fun e w' => e = .returned (.slice (some ⟨fb, fo, none⟩) M fc) ∧ ∃ f', Freq T M n f' ∧ Hold .i32 w' fb fo M f' ∧ Kept (In fb fo M) w w') :
    Calls Tryd.prog 85 #[tv, .slice (some ⟨fb, fo, none⟩) M fc, .slice (some ⟨bb, bo, none⟩) M bc] w fun e w' => e = .returned (.tuple #[]) ∧ ∃ f' g' : Nat → Int, Freq T M n f' ∧ Hold .i32 w' fb fo M f' ∧ (∀ c, c < M → g' c = Sais.start T n (c + 1)) ∧ Hold .i32 w' bb bo M g' ∧ Kept (Two fb fo M bb bo M) w w' := by
  have HC := Lib.hid hcall; clear hcall
  have HB := Lib.hid hB; clear hB
  have HTT := Lib.hid hT; clear hT
  have hM2 : (0 : Int) < (M : Int) := by omega
  go_enter Tryd.func85, Tryd.ntmps85
  go_wp2_with (go_at_call 89; refine HC.out.mono ?_; rintro e w1 ⟨rfl, f, hq, hf, hk1⟩; have HF := Lib.hid hf; clear hf; have HK1 := Lib.hid hk1; clear hk1; have HQ := Lib.hid hq; clear hq)
  have HB1 := Lib.hid (HB.out.kept HK1.out (fun j hj => hFB.symm.out hj))
  clear HB HC
  go_loopw [6, 15] (fun tot i wr => ∃ (c : Nat) (t : Int) (g : Nat → Int), c ≤ M ∧ i = .int .i64 c ∧ tot = .int .i32 t ∧ t = Sais.start T n c ∧ Hold .i32 wr fb fo M f ∧ Hold .i32 wr bb bo M g ∧ (∀ d, d < c → g d = Sais.start T n (d + 1)) ∧ Kept (Two fb fo M bb bo M) w wr) (fun _ i _ => M - (intOf i).toNat)
  case atStart => exact ⟨0, 0, _, by omega, rfl, rfl, by rw [start_zero]; rfl, HF.out, HB1.out, fun d hd => by omega, HK1.out.mono fun _ _ _ h => .inl h⟩
  case round =>
    obtain ⟨c, t, g, hc, rfl, rfl, het, hf, hg, hst, hkept⟩ := hrel
    clear HB1 HF HK1
    by_cases hlt : c < M
    · have hs1 := start_succ HQ.out hlt
      have hb1 := HQ.out.bd hlt
      have hb2 := start_le (T := T) (n := n) (c + 1)
      have hcf := (hf c hlt).1
      obtain ⟨hcg, hfg⟩ := hg c hlt
      generalize f c = x at *
      have ht0 : 0 ≤ t := by omega
      have htx : t + x ≤ n := by omega
      obtain ⟨hx0, hx1⟩ := hb1
      have hg' := hg.set hlt (t + x)
      have hf' := hf.set_other hFB hlt (.int .i32 (t + x))
      have hk' := hkept.set (.int .i32 (t + x)) (show Two fb fo M bb bo M bb (bo + c) from .inr ⟨rfl, by omega, by omega⟩)
      have hst' : ∀ d, d < c + 1 → upd g c (t + x) d = Sais.start T n (d + 1) := by
        intro d hd
        by_cases e : d = c
        · subst e; rw [upd_same]; omega
        · rw [upd_other _ _ e]; exact hst d (by omega)
      have het' : t + x = Sais.start T n (c + 1) := by omega
      have HET := Lib.hid het'; clear het' het hs1 hb2
      have HF' := Lib.hid hf'; clear hf'
      have HG' := Lib.hid hg'; clear hg'
      have HK' := Lib.hid hk'; clear hk'
      have HS := Lib.hid hst'; clear hst' hst hf hg hkept
      have hlt' : (c : Int) < (M : Int) := by omega
      go_wp2
      go_roundw
      case rel => exact ⟨c + 1, _, _, by omega, by go_num, rfl, HET.out, HF'.out, HG'.out, HS.out, HK'.out⟩
      case measure => simp [intOf]; omega
    · obtain rfl : c = M := by omega
      have HF' := Lib.hid hf; clear hf
      have HG' := Lib.hid hg; clear hg
      have HK' := Lib.hid hkept; clear hkept
      have HS := Lib.hid hst; clear hst het
      go_wp2
      go_end0
      exact ⟨rfl, _, _, HQ.out, HF'.out, HS.out, HG'.out, HK'.out⟩

set_option maxHeartbeats 1000000 in
theorem bucketMax_32_n (T : Nat → Nat) (n : Nat) (M : Nat) (hM0 : 0 < M) (hM1 : M ≤ 1073741824) (hT : ∀ i, i < n → T i < M) (hn : n ≤ 1073741824) (tb tx tc bb bo bc : Nat) (g : Nat → Int) (w : World) (hbc : M ≤ bc)
    (ht : Rd .i32 w tb tx n (fun i => (T i : Int))) (hB : Hold .i32 w bb bo M g) (hap : Apart tb tx n bb bo M) :
    Calls Tryd.prog 85 #[.slice (some ⟨tb, tx, none⟩) n tc, .slice none 0 0, .slice (some ⟨bb, bo, none⟩) M bc] w fun e w' => e = .returned (.tuple #[]) ∧ ∃ g' : Nat → Int, (∀ c, c < M → g' c = Sais.start T n (c + 1)) ∧ Hold .i32 w' bb bo M g' ∧ Kept (In bb bo M) w w' := by
  have HC := Lib.hid (freq_32_nil T n M hM0 hM1 hT hn tb tx tc bb bo bc g w hbc ht hB hap)
  clear ht hB hT
  have hM2 : (0 : Int) < (M : Int) := by omega
  go_enter Tryd.func85, Tryd.ntmps85
  go_wp2_with (go_at_call 89; refine HC.out.mono ?_; rintro e w1 ⟨rfl, f, hq, hf, hk1⟩; have HF := Lib.hid hf; clear hf; have HK1 := Lib.hid hk1; clear hk1; have HQ := Lib.hid hq; clear hq)
  clear HC
  go_loopw [6, 15] (fun tot i wr => ∃ (c : Nat) (t : Int) (g : Nat → Int), c ≤ M ∧ i = .int .i64 c ∧ tot = .int .i32 t ∧ t = Sais.start T n c ∧ Hold .i32 wr bb bo M g ∧ (∀ d, d < c → g d = Sais.start T n (d + 1)) ∧ (∀ d, c ≤ d → g d = f d) ∧ Kept (In bb bo M) w wr) (fun _ i _ => M - (intOf i).toNat)
  case atStart => exact ⟨0, 0, _, by omega, rfl, rfl, by rw [start_zero]; rfl, HF.out, fun d hd => by omega, fun _ _ => rfl, HK1.out⟩
  case round =>
    obtain ⟨c, t, g, hc, rfl, rfl, het, hg, hst, hrest, hkept⟩ := hrel
    clear HF HK1
    by_cases hlt : c < M
    · have hs1 := start_succ HQ.out hlt
      have hb1 := HQ.out.bd hlt
      have hb2 := start_le (T := T) (n := n) (c + 1)
      obtain ⟨hcg, hfg⟩ := hg c hlt
      rw [hrest c (Nat.le_refl _)] at hcg
      obtain ⟨x, hx⟩ : ∃ x, f c = x := ⟨_, rfl⟩
      rw [hx] at hcg hb1 hs1
      have ht0 : 0 ≤ t := by omega
      have htx : t + x ≤ n := by omega
      obtain ⟨hx0, hx1⟩ := hb1
      have hg' := hg.set hlt (t + x)
      have hk' := hkept.set (.int .i32 (t + x)) (show In bb bo M bb (bo + c) from ⟨rfl, by omega, by omega⟩)
      have hst' : ∀ d, d < c + 1 → upd g c (t + x) d = Sais.start T n (d + 1) := by
        intro d hd
        by_cases e : d = c
        · subst e; rw [upd_same]; omega
        · rw [upd_other _ _ e]; exact hst d (by omega)
      have hrest' : ∀ d, c + 1 ≤ d → upd g c (t + x) d = f d := fun d hd => by rw [upd_other _ _ (by omega)]; exact hrest d (by omega)
      have het' : t + x = Sais.start T n (c + 1) := by omega
      have HET := Lib.hid het'; clear het' het hs1 hb2 hx
      have HR := Lib.hid hrest'; clear hrest hrest'
      have HG' := Lib.hid hg'; clear hg'
      have HK' := Lib.hid hk'; clear hk'
      have HS := Lib.hid hst'; clear hst' hst hg hkept
      have hlt' : (c : Int) < (M : Int) := by omega
      go_wp2
      go_roundw
      case rel => exact ⟨c + 1, _, _, by omega, by go_num, rfl, HET.out, HG'.out, HS.out, HR.out, HK'.out⟩
      case measure => simp [intOf]; omega
    · obtain rfl : c = M := by omega
      have HG' := Lib.hid hg; clear hg
      have HK' := Lib.hid hkept; clear hkept
      have HS := Lib.hid hst; clear hst het hrest
      go_wp2
      go_end0
      exact ⟨rfl, _, HS.out, HG'.out, HK'.out⟩

/-- THE CONTRACT. -/
theorem bucketMax_32 (T : Nat → Nat) (n : Nat) (M : Nat) (hM0 : 0 < M) (hM1 : M ≤ 1073741824) (hT : ∀ i, i < n → T i < M) (hn : n ≤ 1073741824) (tb tx tc fb fo fm bb bo bc : Nat) (fv : Value) (g : Nat → Int) (w : World) (hbc : M ≤ bc)
    (ht : Rd .i32 w tb tx n (fun i => (T i : Int))) (hF : FreqSt T n M w fv fb fo fm) (hB : Hold .i32 w bb bo M g) (hTF : Apart tb tx n fb fo fm) (hTB : Apart tb tx n bb bo M) (hFB : Apart fb fo fm bb bo M) :
    Calls Tryd.prog 85 #[.slice (some ⟨tb, tx, none⟩) n tc, fv, .slice (some ⟨bb, bo, none⟩) M bc] w fun e w' => e = .returned (.tuple #[]) ∧ ∃ g' : Nat → Int, (∀ c, c < M → g' c = Sais.start T n (c + 1)) ∧ Hold .i32 w' bb bo M g' ∧ FreqSt T n M w' fv fb fo fm ∧ Kept (Two fb fo fm bb bo M) w w' := by
  rcases hF with ⟨rfl, rfl⟩ | ⟨hfm, fc, f, h1, rfl, h3, h4⟩
  · refine (bucketMax_32_n T n M hM0 hM1 hT hn tb tx tc bb bo bc g w hbc ht hB hTB).mono fun e w' ⟨he, g', a, b, c⟩ => ⟨he, g', a, b, .inl ⟨rfl, rfl⟩, c.mono fun _ _ _ h => .inr h⟩
  · have hfm' := hfm.symm
    subst hfm'
    have hcall : Calls Tryd.prog 89 #[.slice (some ⟨tb, tx, none⟩) n tc, .slice (some ⟨fb, fo, none⟩) M fc, .slice (some ⟨bb, bo, none⟩) M bc] w fun e w' => e = .returned (.slice (some ⟨fb, fo, none⟩) M fc) ∧ ∃ f', Freq T M n f' ∧ Hold .i32 w' fb fo M f' ∧ Kept (In fb fo M) w w' := by
      by_cases h0 : f 0 < 0
      · exact freq_32_mk T n M hM0 hM1 hT hn tb tx tc fb fo fc _ f w h1 ht h3 hTF h0
      · have hq := h4.resolve_left h0
        refine (freq_32_done _ _ M hM0 hM1 fb fo fc f w h3 (by omega)).mono fun e w' ⟨he, hw⟩ => ?_
        subst hw
        exact ⟨he, f, hq, h3, Kept.refl _ _⟩
    refine (bucketMax_32_f T n M hM0 hM1 hT hn _ fb fo fc bb bo bc f g w h1 hbc hB hFB hcall).mono fun e w' ⟨he, f', g', a, b, c, d, k⟩ => ⟨he, g', c, d, .inr ⟨rfl, fc, f', h1, rfl, b, .inr a⟩, k⟩

end Go.Proofs.YtoebcbmkkhbldaaDoor

/- The walks over the common words. -/
set_option linter.unusedVariables false
namespace Go.Proofs.YtoebcbmkkhbldaaDoor
open Go.RowKit Go.Mem Sais
set_option maxRecDepth 100000


theorem ret_int {k : IntKind} {a b : Int} (h : a = b) : Ending.returned (.int k a) = .returned (.int k b) := by rw [h]
/-- Where the text (tb, tx), the array (sb, so), the counts (fb, fo, fm) and the pointers (bb, bo) lie: apart; and the bounds. -/
structure Lay (T : Nat → Nat) (n M tb tx sb so fb fo fm bb bo : Nat) : Prop where
  hT : ∀ i, i < n → T i < M
  hn : n ≤ 1073741824
  M0 : 0 < M
  M1 : M ≤ 1073741824
  ts : Apart tb tx n sb so n
  tf : Apart tb tx n fb fo fm
  tp : Apart tb tx n bb bo M
  sf : Apart sb so n fb fo fm
  sp : Apart sb so n bb bo M
  fp : Apart fb fo fm bb bo M

/-- What they hold. -/
structure St (k : IntKind) (T : Nat → Nat) (n M tb tx sb so fb fo fm bb bo : Nat) (fv : Value) (w : World) (sa g : Nat → Int) : Prop where
  t : Rd k w tb tx n (fun i => (T i : Int))
  s : Hold .i32 w sb so n sa
  f : FreqSt T n M w fv fb fo fm
  b : Hold .i32 w bb bo M g

section
variable {k : IntKind} {T : Nat → Nat} {n M tb tx sb so fb fo fm bb bo : Nat} {fv : Value} {w w' : World} {sa g : Nat → Int}
theorem St.setS (h : St k T n M tb tx sb so fb fo fm bb bo fv w sa g) (L : Lay T n M tb tx sb so fb fo fm bb bo) {i : Nat} (hi : i < n) (v : Int) : St k T n M tb tx sb so fb fo fm bb bo fv (w.setCell ⟨sb, so + i, none⟩ (.int .i32 v)) (upd sa i v) g :=
  ⟨h.t.set_other L.ts hi _, h.s.set hi v, h.f.set_other L.sf.symm hi _, h.b.set_other L.sp.symm hi _⟩
theorem St.setB (h : St k T n M tb tx sb so fb fo fm bb bo fv w sa g) (L : Lay T n M tb tx sb so fb fo fm bb bo) {i : Nat} (hi : i < M) (v : Int) : St k T n M tb tx sb so fb fo fm bb bo fv (w.setCell ⟨bb, bo + i, none⟩ (.int .i32 v)) sa (upd g i v) :=
  ⟨h.t.set_other L.tp hi _, h.s.set_other L.sp hi _, h.f.set_other L.fp hi _, h.b.set hi v⟩
theorem St.drewN (h : St k T n M tb tx sb so fb fo fm bb bo fv w sa g) (m : Nat) : St k T n M tb tx sb so fb fo fm bb bo fv (w.drewN m) sa g := ⟨h.t, h.s, h.f, h.b⟩
theorem St.drew (h : St k T n M tb tx sb so fb fo fm bb bo fv w sa g) : St k T n M tb tx sb so fb fo fm bb bo fv w.drew sa g := ⟨h.t, h.s, h.f, h.b⟩
/-- Behind a call that writes counts and pointers alone. -/
theorem St.after (h : St k T n M tb tx sb so fb fo fm bb bo fv w sa g) (L : Lay T n M tb tx sb so fb fo fm bb bo) (hk : Kept (Two fb fo fm bb bo M) w w') {g' : Nat → Int} (hb : Hold .i32 w' bb bo M g') (hf : FreqSt T n M w' fv fb fo fm) : St k T n M tb tx sb so fb fo fm bb bo fv w' sa g' :=
  ⟨h.t.kept hk fun j hj hh => hh.elim (L.tf.out hj) (L.tp.out hj), h.s.kept hk fun j hj hh => hh.elim (L.sf.out hj) (L.sp.out hj), hf, hb⟩
abbrev Kp (n M sb so fb fo fm bb bo : Nat) (w w' : World) : Prop := Kept (Three sb so n fb fo fm bb bo M) w w'
theorem Kp.of_two (h : Kept (Two fb fo fm bb bo M) w w') : Kp n M sb so fb fo fm bb bo w w' := h.mono fun _ _ _ hh => .inr hh
theorem Kp.setS {w'' : World} (h : Kp n M sb so fb fo fm bb bo w w'') {i : Nat} (hi : i < n) (v : Value) : Kp n M sb so fb fo fm bb bo w (w''.setCell ⟨sb, so + i, none⟩ v) := h.set v (.inl ⟨rfl, by omega, by omega⟩)
theorem Kp.setB {w'' : World} (h : Kp n M sb so fb fo fm bb bo w w'') {i : Nat} (hi : i < M) (v : Value) : Kp n M sb so fb fo fm bb bo w (w''.setCell ⟨bb, bo + i, none⟩ v) := h.set v (.inr (.inr ⟨rfl, by omega, by omega⟩))
/-- What such a call ends in: its value, what the rows hold, what else is as it was, and a word on the array. -/
def SPost (k : IntKind) (T : Nat → Nat) (n M tb tx sb so fb fo fm bb bo : Nat) (fv : Value) (w : World) (v : Value) (R : (Nat → Int) → Prop) (e : Ending) (w' : World) : Prop :=
  e = .returned v ∧ ∃ sa' g' : Nat → Int, St k T n M tb tx sb so fb fo fm bb bo fv w' sa' g' ∧ Kp n M sb so fb fo fm bb bo w w' ∧ R sa'
theorem SPost.mk {v : Value} {R : (Nat → Int) → Prop} {e : Ending} (he : e = .returned v) (hs : St k T n M tb tx sb so fb fo fm bb bo fv w' sa g) (hk : Kp n M sb so fb fo fm bb bo w w') (hr : R sa) : SPost k T n M tb tx sb so fb fo fm bb bo fv w v R e w' :=
  ⟨he, sa, g, hs, hk, hr⟩
/-- Cells behind one store. -/
theorem Lay.ne_sp (L : Lay T n M tb tx sb so fb fo fm bb bo) {i j : Nat} (hi : i < n) (hj : j < M) : (⟨bb, bo + j, none⟩ : Addr) ≠ ⟨sb, so + i, none⟩ := L.sp.ne hi hj
theorem Lay.ne_ps (L : Lay T n M tb tx sb so fb fo fm bb bo) {i j : Nat} (hi : i < n) (hj : j < M) : (⟨sb, so + i, none⟩ : Addr) ≠ ⟨bb, bo + j, none⟩ := fun e => L.sp.ne hi hj e.symm
end

end Go.Proofs.YtoebcbmkkhbldaaDoor

/- More words on rows: a new row of zeros; that a row holds some numbers; what a draw or a new block leaves. -/
set_option linter.unusedVariables false
namespace Go.Mem
open Go.RowKit Sais

theorem Hold.of_each {k : IntKind} {w : World} {b off n : Nat} (h : ∀ j, j < n → ∃ v, w.cell? ⟨b, off + j, none⟩ = some (.int k v) ∧ w.frozen? ⟨b, off + j, none⟩ = false) : ∃ f, Hold k w b off n f := by
  have hc : ∀ j, ∃ v, j < n → w.cell? ⟨b, off + j, none⟩ = some (.int k v) ∧ w.frozen? ⟨b, off + j, none⟩ = false := fun j => by
    by_cases hj : j < n
    · obtain ⟨v, hv⟩ := h j hj; exact ⟨v, fun _ => hv⟩
    · exact ⟨0, fun h => (hj h).elim⟩
  obtain ⟨f, hf⟩ := Classical.axiomOfChoice hc
  exact ⟨f, hf⟩
theorem Hold.uniq {k : IntKind} {w : World} {b off n off' n' j j' : Nat} {f g : Nat → Int} (h : Hold k w b off n f) (h' : Hold k w b off' n' g) (hj : j < n) (hj' : j' < n') (e : off + j = off' + j') : f j = g j' := by
  have h1 := (h j hj).1
  have h2 := (h' j' hj').1
  rw [e, h2] at h1
  simpa using h1.symm

theorem heap_alloc_old (w : World) (o : Obj) (b : Nat) (h : b < w.heap.size) : (w.alloc o).heap[b]? = w.heap[b]? := by
  show (w.heap.push o)[b]? = w.heap[b]?
  rw [Array.getElem?_push, if_neg (by omega)]
theorem Kept.alloc {S : Nat → Nat → Prop} {w w' : World} (h : Kept S w w') (o : Obj) : Kept S w (w'.alloc o) := by
  refine ⟨h.os, h.tape, h.output, by rw [World.size_alloc]; have := h.size; omega, ?_, ?_, ?_, ?_⟩
  · intro b o' hb hn
    rw [World.cell?_alloc_lt _ _ _ (by have := h.size; simp only; omega)]
    exact h.cell b o' hb hn
  · intro b o' hb
    rw [World.frozen?_alloc_old _ _ _ (by have := h.size; simp only; omega)]
    exact h.frozen b o' hb
  · intro b hb hn
    rw [heap_alloc_old _ _ _ (by have := h.size; omega)]
    exact h.block b hb hn
  · intro b hb
    have : (w'.alloc o).shape? b = w'.shape? b := by
      unfold World.shape?
      rw [heap_alloc_old _ _ _ (by have := h.size; omega)]
    rw [this]; exact h.shape b hb
theorem Hold.made (k : IntKind) (w : World) (t : TypeId) (n : Nat) : Hold k (w.alloc (.cells (madeCells #[.int k 0] n) t)) w.heap.size 0 n (fun _ => 0) := by
  intro j hj
  refine ⟨?_, ?_⟩
  · rw [Nat.zero_add, World.cell?_alloc_new]
    simp [madeCells, hj, Nat.mod_one]
  · rw [World.frozen?_alloc_new]
theorem Apart.new {b off n b' off' n' : Nat} (h : b ≠ b') : Apart b off n b' off' n' := .inl h
theorem Apart.sub {b off n b' off' n' : Nat} (h : Apart b off n b' off' n') {d m : Nat} (hm : d + m ≤ n) : Apart b (off + d) m b' off' n' := by
  unfold Apart at *; omega
theorem Apart.head {b off n b' off' n' : Nat} (h : Apart b off n b' off' n') {m : Nat} (hm : m ≤ n) : Apart b off m b' off' n' := by
  unfold Apart at *; omega
theorem Rd.lt' {k : IntKind} {w : World} {b off n : Nat} {f : Nat → Int} (h : Hold k w b off n f) (hn : 0 < n) : b < w.heap.size := h.lt hn

/-- 'copy(sa, sa[N-m:])' -/
theorem run_copy_top {P : Program} {k : IntKind} (w : World) (t e : TypeId) (ht : P.underlying t = some (.slice e)) (hs : (P.info? e).map (·.size) = some 1) {b o N m c c2 : Nat} {f : Nat → Int} (hm : 2 * m ≤ N) (h : Hold k w b o N f) :
    ∃ w1, (∀ ty, (Builtin.copy_ #[t, t] ty #[.slice (some ⟨b, o, none⟩) N c, .slice (some ⟨b, o + (N - m), none⟩) m c2]).run P w = .ok (.int .i64 (m : Nat)) w1) ∧ Hold k w1 b o N (fun x => if x < m then f (N - m + x) else f x) ∧ Kept (In b o m) w w1 := by
  have hlen : ((List.range m).map fun j => Value.int k (f (N - m + j))).length = m := by simp
  refine ⟨w.setCells b o ((List.range m).map fun j => Value.int k (f (N - m + j))), fun ty => ?_, ?_, ?_⟩
  · have := run_copy_cells (P := P) w t t ty e b o N c ⟨b, o + (N - m), none⟩ m c2 ((List.range m).map fun j => Value.int k (f (N - m + j))) ht hs (by rw [hlen]; exact (Nat.min_eq_left (by omega)).symm)
      (fun j v hj => by
        have hjm : j < m := by
          have := (List.getElem?_eq_some_iff.1 hj).1
          simpa using this
        simp [hjm] at hj
        subst hj
        have e1 : (⟨b, o + (N - m), none⟩ : Addr).add j = ⟨b, o + (N - m + j), none⟩ := by simp [Addr.add, Nat.add_assoc]
        rw [e1]; exact (h _ (by omega)).1)
      (fun j hj => by rw [hlen] at hj; rw [(h j (by omega)).1]; rfl) (fun j hj => by rw [hlen] at hj; exact (h j (by omega)).2)
      (fun v hv => by obtain ⟨j, _, rfl⟩ := List.mem_map.1 hv; rfl)
    rw [this, hlen]; rfl
  · intro x hx
    refine ⟨?_, by rw [World.frozen?_setCells]; exact (h x hx).2⟩
    by_cases hxm : x < m
    · have := World.cell?_setCells_in b ((List.range m).map fun j => Value.int k (f (N - m + j))) o w (fun j hj => by rw [hlen] at hj; rw [(h j (by omega)).1]; rfl) x (by rw [hlen]; exact hxm)
      rw [this]
      simp [hxm]
    · rw [World.cell?_setCells_out b _ o w _ (fun _ _ => by simp only [hlen]; omega)]
      simp only [hxm, if_false]
      exact (h x hx).1
  · have := Kept.sets w b o ((List.range m).map fun j => Value.int k (f (N - m + j)))
    rwa [hlen] at this
end Go.Mem

namespace Go.Proofs.YtoebcbmkkhbldaaDoor
open Go.RowKit Go.Mem Sais
theorem Tryd.info21 : (Tryd.prog.info? 21).map (fun i => (i.zero, i.size, i.bytes)) = some (some (.int .i32 0), 1, 4) := by kernel_rfl
theorem Tryd.make32 (u : World) (n : Nat) (hn : n ≤ 1073741824) : (Instr.makeSlice 43 (.int .i64 (n : Int)) (.int .i64 (n : Int))).run Tryd.prog u =
    .ok (.slice (some ⟨u.heap.size, 0, none⟩) n n) (u.alloc (.cells (madeCells #[.int .i32 0] n) 21)) := by
  obtain ⟨i0, hi, hz0, hz1, hz2⟩ := info_parts Tryd.info21
  have h := run_make (P := Tryd.prog) u 43 21 i0 (.int .i32 0) Tryd.underlying43 hi hz0 .i64 .i64 (n : Int) (n : Int) (by omega) (Int.le_refl _) (by rw [hz2]; omega) (by omega)
  simpa [hz1, Value.cells] using h
end Go.Proofs.YtoebcbmkkhbldaaDoor

/- The walks over map_32. -/
set_option linter.unusedVariables false
namespace Go.Proofs.YtoebcbmkkhbldaaDoor
open Go.RowKit Go.Mem Sais
set_option maxRecDepth 100000


set_option maxHeartbeats 4000000 in
theorem map_32 (T : Nat → Nat) (n sb so sc : Nat) (nv : Value) (sa : Nat → Int) (w : World) (hn0 : 0 < n) (hn : n ≤ 1073741824) (H : Hold .i32 w sb so n sa) (I : MapI T n (n / 2 + 1) sa n) :
    Calls Tryd.prog 40 #[.slice (some ⟨sb, so, none⟩) n sc, nv] w (fun e w' => e = .returned (.tuple #[]) ∧ ∃ (sa' : Nat → Int) (v : Nat), Hold .i32 w' sb so n sa' ∧ MapI T n 0 sa' v ∧ Kept (In sb so n) w w') := by
  have HH := Lib.hid H; clear H
  have HI := Lib.hid I; clear I
  go_enter Tryd.func40, Tryd.ntmps40
  go_wp2
  go_loopw [4, 5] (fun ws is wr => ∃ (i v : Nat) (q : Int) (sa' : Nat → Int), i ≤ n / 2 + 1 ∧ q = (i : Int) - 1 ∧ is = .int .i64 q ∧ ws = .int .i64 v ∧ v ≤ n ∧ Hold .i32 wr sb so n sa' ∧ MapI T n i sa' v ∧ Kept (In sb so n) w wr) (fun _ is _ => (intOf is + 1).toNat)
  case atStart => exact ⟨n / 2 + 1, n, _, _, Nat.le_refl _, by omega, rfl, rfl, Nat.le_refl _, HH.out, HI.out, Kept.refl _ _⟩
  case round =>
    clear HH HI
    obtain ⟨i, v, q, sa', hi, hq, rfl, rfl, hv, hH, hI, hK⟩ := hrel
    by_cases hi0 : i = 0
    · subst hi0
      obtain rfl : q = -1 := by omega
      have HI := Lib.hid hI
      have HH := Lib.hid hH
      have HK := Lib.hid hK
      clear hI hH hK hq
      go_wp2
      go_end0
      exact ⟨rfl, _, _, HH.out, HI.out, HK.out⟩
    · obtain ⟨y, rfl⟩ : ∃ y, i = y + 1 := ⟨i - 1, by omega⟩
      obtain rfl : q = (y : Int) := by omega
      clear hq hi0
      have hlt : y < n := by omega
      have hlt' : (y : Int) < (n : Int) := by omega
      obtain ⟨hci, hfi⟩ := hH y hlt
      obtain ⟨jv, hjv⟩ : ∃ z, sa' y = z := ⟨_, rfl⟩
      rw [hjv] at hci
      by_cases hz : jv = 0
      · subst hz
        have HI := Lib.hid (hI.zero hjv)
        have HH := Lib.hid hH
        have HK := Lib.hid hK
        clear hI hH hK hjv
        go_wp2
        go_roundw
        case rel => exact ⟨y, v, _, _, by omega, rfl, rfl, rfl, hv, HH.out, HI.out, HK.out⟩
        case measure => simp [intOf]
      · obtain ⟨h1, h2, h3, h4, h5, h6⟩ := hI.some hn0 (by omega) (by rw [hjv]; exact hz)
        rw [hjv] at h1 h2 h6
        obtain ⟨hcw, hfw⟩ := hH (v - 1) (by omega)
        obtain ⟨old, hold⟩ : ∃ z, sa' (v - 1) = z := ⟨_, rfl⟩
        rw [hold] at hcw
        have y1 : ((v : Int) - 1).toNat = v - 1 := by omega
        have y2 : (0 : Int) ≤ (v : Int) - 1 := by omega
        have y3 : (v : Int) - 1 < (n : Int) := by omega
        have HI := Lib.hid h6
        have HH := Lib.hid (hH.set (show v - 1 < n by omega) (jv - 1))
        have HK := Lib.hid (hK.set (.int .i32 (jv - 1)) (show In sb so n sb (so + (v - 1)) from ⟨rfl, by omega, by omega⟩))
        clear hI hH hK hjv h6 hold
        go_wp2
        go_roundw
        case rel => exact ⟨y, v - 1, _, _, by omega, rfl, rfl, congrArg (Value.int .i64) (show (v : Int) - 1 = ((v - 1 : Nat) : Int) by omega), by omega, HH.out, HI.out, HK.out⟩
        case measure => simp [intOf]

end Go.Proofs.YtoebcbmkkhbldaaDoor

/- The walks over assignID. -/
set_option linter.unusedVariables false
namespace Go.Proofs.YtoebcbmkkhbldaaDoor
open Go.RowKit Go.Mem Sais
set_option maxRecDepth 100000


theorem ret_int' {k : IntKind} {a b : Int} (h : a = b) : Ending.returned (.int k a) = .returned (.int k b) := by rw [h]
def asgPost (T : Nat → Nat) (n : Nat) (lc : Nat → Int) (sb so m : Nat) (w : World) (e : Ending) (w' : World) : Prop :=
  e = .returned (.int .i64 (nameSeq T n (m - 1) : Nat)) ∧ ∃ (sa' : Nat → Int) (lp : Nat) (l : Int), Hold .i32 w' sb so n sa' ∧ Asg T n lc m sa' (nameSeq T n (m - 1)) lp l ∧ Kept (In sb so n) w w'
theorem asgPost_mk {T : Nat → Nat} {n : Nat} {lc : Nat → Int} {sb so m : Nat} {w w' : World} {e : Ending} {sa' : Nat → Int} {lp : Nat} {l : Int} (he : e = .returned (.int .i64 (nameSeq T n (m - 1) : Nat))) (h1 : Hold .i32 w' sb so n sa') (h2 : Asg T n lc m sa' (nameSeq T n (m - 1)) lp l) (h3 : Kept (In sb so n) w w') : asgPost T n lc sb so m w e w' :=
  ⟨he, sa', lp, l, h1, h2, h3⟩

end Go.Proofs.YtoebcbmkkhbldaaDoor
