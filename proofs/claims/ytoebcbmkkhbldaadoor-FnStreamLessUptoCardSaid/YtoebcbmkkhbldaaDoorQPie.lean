/- (*impl.pieces).Read: a reader that gives few bytes at a time. -/
import Derived.Test.YtoebcbmkkhbldaaDoorQRdr
set_option linter.unusedVariables false
namespace Go.Proofs.YtoebcbmkkhbldaaDoor
open Go.RowKit Go.Mem Sais Go.Lib Go.Wire
set_option maxRecDepth 100000

/-- A reader at block pb: its sizes lie at (zb, zo). -/
structure PSs (B : Obj) (pb zb zo zn zc call : Nat) (f : Nat → Int) (left : ByteArray) (w : World) : Prop where
  c0 : w.cell? ⟨pb, 0, none⟩ = some (.string left)
  c1 : w.cell? ⟨pb, 1, none⟩ = some (.slice (some ⟨zb, zo, none⟩) zn zc)
  c2 : w.cell? ⟨pb, 2, none⟩ = some (.int .i64 (call : Nat))
  fr : ∀ o, o < 3 → w.frozen? ⟨pb, o, none⟩ = false
  r : Rd .i64 w zb zo zn f
  pos : ∀ j, j < zn → 1 ≤ f j ∧ f j ≤ 9223372036854775807
  z0 : 0 < zn
  zm : zn ≤ 1073741824
  ne : zb ≠ pb
  lt : pb < w.heap.size
  cal : call + left.size ≤ 4611686018427387904
  hb : w.heap[zb]? = some B
def PS (B : Obj) (pb zb zo zn zc : Nat) (f : Nat → Int) (s : List UInt8) (w : World) : Prop := ∃ call left, PSs B pb zb zo zn zc call f left w ∧ left.data.toList = s
theorem PSs.kept {B : Obj} {pb zb zo zn zc call : Nat} {f : Nat → Int} {left : ByteArray} {w w' : World} {S : Nat → Nat → Prop} (h : PSs B pb zb zo zn zc call f left w) (hk : Kept S w w') (hs : ∀ x o, DB pb zb x → ¬ S x o) : PSs B pb zb zo zn zc call f left w' :=
  ⟨(hk.cell pb 0 h.lt (hs pb 0 (.inl rfl))).trans h.c0, (hk.cell pb 1 h.lt (hs pb 1 (.inl rfl))).trans h.c1, (hk.cell pb 2 h.lt (hs pb 2 (.inl rfl))).trans h.c2, fun o ho => (hk.frozen pb o h.lt).trans (h.fr o ho), h.r.kept hk fun j _ => hs zb _ (.inr rfl), h.pos, h.z0, h.zm, h.ne, Nat.lt_of_lt_of_le h.lt hk.size, h.cal, (hk.block zb (lt_of_heap h.hb) fun o => hs zb o (.inr rfl)).trans h.hb⟩
theorem PS.kept {B : Obj} {pb zb zo zn zc : Nat} {f : Nat → Int} {s : List UInt8} {w w' : World} {S : Nat → Nat → Prop} (h : PS B pb zb zo zn zc f s w) (hk : Kept S w w') (hs : ∀ x o, DB pb zb x → ¬ S x o) : PS B pb zb zo zn zc f s w' := by
  obtain ⟨call, left, h1, h2⟩ := h
  exact ⟨call, left, h1.kept hk hs, h2⟩
/-- copy(p, string) -/
theorem copy_string (w : World) (k o n c : Nat) (old : List UInt8) (t : ByteArray) (hB : By w k o old) (hn : n ≤ old.length) (ty : TypeId) :
    (Builtin.copy_ #[28, 9] ty #[.slice (some ⟨k, o, none⟩) n c, .string t]).run Tryd.prog w = .ok (.int .i64 (min n t.size : Nat)) (w.setCells k o (byteCells (t.data.toList.take (min n t.size)))) := by
  have hts : t.data.toList.length = t.size := by simp
  have hl : (byteCells (t.data.toList.take (min n t.size))).length = min n t.size := by rw [byteCells_length, List.length_take, hts]; omega
  have hst := run_storeCells_cells (P := Tryd.prog) k o (byteCells (t.data.toList.take (min n t.size))) 0 w (fun j hj => by rw [hl] at hj; rw [Nat.add_zero, (hB j (by omega)).1]; rfl) (fun j hj => by rw [hl] at hj; rw [Nat.add_zero]; exact (hB j (by omega)).2) (byte_one _)
  have hz : ∀ w, (Go.sizeOf 5).run Tryd.prog w = .ok 1 w := Tryd.sizeOf5
  have hm : Nat.min t.size n = min n t.size := Nat.min_comm _ _
  have he : List.take (min n t.size) (t.data.toList.map fun x => Value.int .u8 (x.toNat : Int)) = byteCells (t.data.toList.take (min n t.size)) := by simp [byteCells, List.map_take]
  simp [Builtin.copy_, run_underlying Tryd.underlying28, Builtin.lenOf, Builtin.firstCells, hz, hm]
  rw [he, hst]
  rfl
/-- What is left of a string. -/
def dropS (t : ByteArray) (m : Nat) : ByteArray := t.extract m t.size
theorem dropS_list (t : ByteArray) (m : Nat) : (dropS t m).data.toList = t.data.toList.drop m := by
  unfold dropS
  rw [ByteArray.data_extract]
  simp
  exact List.take_of_length_le (by simp)
theorem dropS_size (t : ByteArray) (m : Nat) (h : m ≤ t.size) : (dropS t m).size = t.size - m := by
  unfold dropS; simp
theorem ps_next {B : Obj} {pb zb zo zn zc call k o m : Nat} {f : Nat → Int} {left : ByteArray} {old : List UInt8} {w w1 : World} (h : PSs B pb zb zo zn zc call f left w1) (hK : Kept (fun _ _ => False) w w1) (hB : By w k o old) (hkp : k ≠ pb) (hkz : k ≠ zb) (hm : m ≤ old.length) (hm2 : m ≤ left.size) (h1 : 1 ≤ m) :
    RdPost (PS B pb zb zo zn zc f) (DB pb zb) left.data.toList old k o w (.returned (.tuple #[.int .i64 (m : Nat), .nilIface])) (((w1.setCells k o (byteCells (left.data.toList.take m))).setCell ⟨pb, 0, none⟩ (.string (dropS left m))).setCell ⟨pb, 2, none⟩ (.int .i64 ((call + 1 : Nat)))) := by
  have hsl : left.data.toList.length = left.size := by simp
  have hB1 : By w1 k o old := hB.kept hK fun _ _ h => h
  have hlen : (left.data.toList.take m).length = m := by rw [List.length_take, hsl]; omega
  have hK2 : Kept (In k o m) w1 (w1.setCells k o (byteCells (left.data.toList.take m))) := by
    have := By.keptSets w1 k o (left.data.toList.take m)
    rwa [hlen] at this
  have h2 : PSs B pb zb zo zn zc call f left (w1.setCells k o (byteCells (left.data.toList.take m))) := h.kept hK2 fun x y hx hh => by
    rcases hx with hx | hx
    · exact hkp (hh.1.symm.trans hx)
    · exact hkz (hh.1.symm.trans hx)
  have hBc := hB1.copied m (s := left.data.toList) (by omega) (by omega)
  generalize w1.setCells k o (byteCells (left.data.toList.take m)) = w2 at *
  have hK3 : Kept (fun x _ => x = pb) w2 ((w2.setCell ⟨pb, 0, none⟩ (.string (dropS left m))).setCell ⟨pb, 2, none⟩ (.int .i64 ((call + 1 : Nat)))) := ((Kept.refl (fun x _ => x = pb) w2).set _ rfl).set _ rfl
  refine ⟨m, h1, hm, by omega, rfl, ⟨call + 1, dropS left m, ⟨?_, ?_, ?_, fun o' ho => ?_, h2.r.kept hK3 fun j _ hh => h.ne hh, h.pos, h.z0, h.zm, h.ne, Nat.lt_of_lt_of_le h2.lt hK3.size, ?_, (hK3.block zb (lt_of_heap h2.hb) fun o hh => h.ne hh).trans h2.hb⟩, dropS_list left m⟩, hBc.kept hK3 fun j _ hh => hkp hh, ?_⟩
  · rw [World.cell?_setCell_other _ _ _ _ (by simp), World.cell?_setCell_same _ _ _ h2.c0]
  · rw [World.cell?_setCell_other _ _ _ _ (by simp), World.cell?_setCell_other _ _ _ _ (by simp)]; exact h2.c1
  · rw [World.cell?_setCell_same _ _ _ (u := .int .i64 (call : Nat))]
    rw [World.cell?_setCell_other _ _ _ _ (by simp)]; exact h2.c2
  · rw [World.frozen?_setCell, World.frozen?_setCell]; exact h2.fr o' ho
  · rw [dropS_size left m hm2]; have := h.cal; omega
  · exact (((hK.mono fun x y _ hh => hh.elim).trans' hK2 fun x y _ hh => .inr ⟨hh.1, hh.2.1, by have := hh.2.2; omega⟩).trans' hK3 fun x y _ hh => .inl (.inl hh))
/-- What changed only where nothing changed. -/
theorem Kept.fix {S : Nat → Nat → Prop} {w w' : World} (h : Kept S w w') (hx : ∀ x o, x < w.heap.size → S x o → w'.heap[x]? = w.heap[x]?) : Grew w w' := by
  have hb : ∀ b, b < w.heap.size → w'.heap[b]? = w.heap[b]? := fun b hb => by
    by_cases hs : ∃ o, S b o
    · obtain ⟨o, ho⟩ := hs; exact hx b o hb ho
    · exact h.block b hb fun o ho => hs ⟨o, ho⟩
  exact ⟨h.os, h.tape, h.output, h.size, fun b o hb' _ => World.cell?_of_block (hb b hb'), h.frozen, fun b hb' _ => hb b hb', h.shape⟩
end Go.Proofs.YtoebcbmkkhbldaaDoor
