/- (*impl.pieces).Read: a reader that gives few bytes at a time. -/
import Derived.Test.YtoebcbmkkhbldaaGreatDoorQRdr
set_option linter.unusedVariables false
namespace Go.Proofs.YtoebcbmkkhbldaaGreatDoor
open Go.RowKit Go.Mem Sais Go.Lib Go.Wire
set_option maxRecDepth 100000

/-- A reader at block pb: its sizes lie at (zb, zo). -/
structure PSs (B : Obj) (pb zb zo zn zc call : Nat) (f : Nat → Int) (left : ByteArray) (w : World) : Prop where
  c0 : w.cell? ⟨pb, 0, none⟩ = some (.string left)
  c1 : w.cell? ⟨pb, 1, none⟩ = some (.slice (some ⟨zb, zo, none⟩) zn zc)
  c2 : w.cell? ⟨pb, 2, none⟩ = some (.int .i64 (call : Nat))
  fr : ∀ o, o < 3 → w.frozen? ⟨pb, o, none⟩ = false
  r : Rd .i64 w zb zo zn f
  pos : ∀ j, j < zn → 1 ≤ f j ∧ f j ≤ 9223372036854775807
  z0 : 0 < zn
  zm : zn ≤ 1073741824
  ne : zb ≠ pb
  lt : pb < w.heap.size
  cal : call + left.size ≤ 4611686018427387904
  hb : w.heap[zb]? = some B
def PS (B : Obj) (pb zb zo zn zc : Nat) (f : Nat → Int) (s : List UInt8) (w : World) : Prop := ∃ call left, PSs B pb zb zo zn zc call f left w ∧ left.data.toList = s
theorem PSs.kept {B : Obj} {pb zb zo zn zc call : Nat} {f : Nat → Int} {left : ByteArray} {w w' : World} {S : Nat → Nat → Prop} (h : PSs B pb zb zo zn zc call f left w) (hk : Kept S w w') (hs : ∀ x o, DB pb zb x → ¬ S x o) : PSs B pb zb zo zn zc call f left w' :=
  ⟨(hk.cell pb 0 h.lt (hs pb 0 (.inl rfl))).trans h.c0, (hk.cell pb 1 h.lt (hs pb 1 (.inl rfl))).trans h.c1, (hk.cell pb 2 h.lt (hs pb 2 (.inl rfl))).trans h.c2, fun o ho => (hk.frozen pb o h.lt).trans (h.fr o ho), h.r.kept hk fun j _ => hs zb _ (.inr rfl), h.pos, h.z0, h.zm, h.ne, Nat.lt_of_lt_of_le h.lt hk.size, h.cal, (hk.block zb (lt_of_heap h.hb) fun o => hs zb o (.inr rfl)).trans h.hb⟩
theorem PS.kept {B : Obj} {pb zb zo zn zc : Nat} {f : Nat → Int} {s : List UInt8} {w w' : World} {S : Nat → Nat → Prop} (h : PS B pb zb zo zn zc f s w) (hk : Kept S w w') (hs : ∀ x o, DB pb zb x → ¬ S x o) : PS B pb zb zo zn zc f s w' := by
  obtain ⟨call, left, h1, h2⟩ := h
  exact ⟨call, left, h1.kept hk hs, h2⟩
/-- copy(p, string) -/
theorem copy_string (w : World) (k o n c : Nat) (old : List UInt8) (t : ByteArray) (hB : By w k o old) (hn : n ≤ old.length) (ty : TypeId) :
    (Builtin.copy_ #[46, 9] ty #[.slice (some ⟨k, o, none⟩) n c, .string t]).run Tryz.prog w = .ok (.int .i64 (min n t.size : Nat)) (w.setCells k o (byteCells (t.data.toList.take (min n t.size)))) := by
  have hts : t.data.toList.length = t.size := by simp
  have hl : (byteCells (t.data.toList.take (min n t.size))).length = min n t.size := by rw [byteCells_length, List.length_take, hts]; omega
  have hst := run_storeCells_cells (P := Tryz.prog) k o (byteCells (t.data.toList.take (min n t.size))) 0 w (fun j hj => by rw [hl] at hj; rw [Nat.add_zero, (hB j (by omega)).1]; rfl) (fun j hj => by rw [hl] at hj; rw [Nat.add_zero]; exact (hB j (by omega)).2) (byte_one _)
  have hz : ∀ w, (Go.sizeOf 5).run Tryz.prog w = .ok 1 w := Tryz.sizeOf5
  have hm : Nat.min t.size n = min n t.size := Nat.min_comm _ _
  have he : List.take (min n t.size) (t.data.toList.map fun x => Value.int .u8 (x.toNat : Int)) = byteCells (t.data.toList.take (min n t.size)) := by simp [byteCells, List.map_take]
  simp [Builtin.copy_, run_underlying Tryz.underlying46, Builtin.lenOf, Builtin.firstCells, hz, hm]
  rw [he, hst]
  rfl
/-- What is left of a string. -/
def dropS (t : ByteArray) (m : Nat) : ByteArray := t.extract m t.size
theorem dropS_list (t : ByteArray) (m : Nat) : (dropS t m).data.toList = t.data.toList.drop m := by
  unfold dropS
  rw [ByteArray.data_extract]
  simp
  exact List.take_of_length_le (by simp)
theorem dropS_size (t : ByteArray) (m : Nat) (h : m ≤ t.size) : (dropS t m).size = t.size - m := by
  unfold dropS; simp
theorem ps_next {B : Obj} {pb zb zo zn zc call k o m : Nat} {f : Nat → Int} {left : ByteArray} {old : List UInt8} {w w1 : World} (h : PSs B pb zb zo zn zc call f left w1) (hK : Kept (fun _ _ => False) w w1) (hB : By w k o old) (hkp : k ≠ pb) (hkz : k ≠ zb) (hm : m ≤ old.length) (hm2 : m ≤ left.size) (h1 : 1 ≤ m) :
    RdPost (PS B pb zb zo zn zc f) (DB pb zb) left.data.toList old k o w (.returned (.tuple #[.int .i64 (m : Nat), .nilIface])) (((w1.setCells k o (byteCells (left.data.toList.take m))).setCell ⟨pb, 0, none⟩ (.string (dropS left m))).setCell ⟨pb, 2, none⟩ (.int .i64 ((call + 1 : Nat)))) := by
  have hsl : left.data.toList.length = left.size := by simp
  have hB1 : By w1 k o old := hB.kept hK fun _ _ h => h
  have hlen : (left.data.toList.take m).length = m := by rw [List.length_take, hsl]; omega
  have hK2 : Kept (In k o m) w1 (w1.setCells k o (byteCells (left.data.toList.take m))) := by
    have := By.keptSets w1 k o (left.data.toList.take m)
    rwa [hlen] at this
  have h2 : PSs B pb zb zo zn zc call f left (w1.setCells k o (byteCells (left.data.toList.take m))) := h.kept hK2 fun x y hx hh => by
    rcases hx with hx | hx
    · exact hkp (hh.1.symm.trans hx)
    · exact hkz (hh.1.symm.trans hx)
  have hBc := hB1.copied m (s := left.data.toList) (by omega) (by omega)
  generalize w1.setCells k o (byteCells (left.data.toList.take m)) = w2 at *
  have hK3 : Kept (fun x _ => x = pb) w2 ((w2.setCell ⟨pb, 0, none⟩ (.string (dropS left m))).setCell ⟨pb, 2, none⟩ (.int .i64 ((call + 1 : Nat)))) := ((Kept.refl (fun x _ => x = pb) w2).set _ rfl).set _ rfl
  refine ⟨m, h1, hm, by omega, rfl, ⟨call + 1, dropS left m, ⟨?_, ?_, ?_, fun o' ho => ?_, h2.r.kept hK3 fun j _ hh => h.ne hh, h.pos, h.z0, h.zm, h.ne, Nat.lt_of_lt_of_le h2.lt hK3.size, ?_, (hK3.block zb (lt_of_heap h2.hb) fun o hh => h.ne hh).trans h2.hb⟩, dropS_list left m⟩, hBc.kept hK3 fun j _ hh => hkp hh, ?_⟩
  · rw [World.cell?_setCell_other _ _ _ _ (by simp), World.cell?_setCell_same _ _ _ h2.c0]
  · rw [World.cell?_setCell_other _ _ _ _ (by simp), World.cell?_setCell_other _ _ _ _ (by simp)]; exact h2.c1
  · rw [World.cell?_setCell_same _ _ _ (u := .int .i64 (call : Nat))]
    rw [World.cell?_setCell_other _ _ _ _ (by simp)]; exact h2.c2
  · rw [World.frozen?_setCell, World.frozen?_setCell]; exact h2.fr o' ho
  · rw [dropS_size left m hm2]; have := h.cal; omega
  · exact (((hK.mono fun x y _ hh => hh.elim).trans' hK2 fun x y _ hh => .inr ⟨hh.1, hh.2.1, by have := hh.2.2; omega⟩).trans' hK3 fun x y _ hh => .inl (.inl hh))
set_option maxHeartbeats 8000000 in
theorem pieces_Read (B : Obj) (pb zb zo zn zc : Nat) (f : Nat → Int) (s old : List UInt8) (k o c : Nat) (w : World) (hP : PS B pb zb zo zn zc f s w) (hs : s ≠ []) (hB : By w k o old) (h0 : 0 < old.length) (hmax : old.length ≤ 1073741824) (hc : old.length ≤ c) (hD : ¬ DB pb zb k) :
    Calls Tryz.prog 138 #[.pointer (some ⟨pb, 0, none⟩), .slice (some ⟨k, o, none⟩) old.length c] w (RdPost (PS B pb zb zo zn zc f) (DB pb zb) s old k o w) := by
  obtain ⟨call, left, h, rfl⟩ := hP
  have hkp : k ≠ pb := fun e => hD (.inl e)
  have hkz : k ≠ zb := fun e => hD (.inr e)
  have hls : left.data.toList.length = left.size := by simp
  have hl0 : 0 < left.size := by
    rcases Nat.eq_zero_or_pos left.size with h | h
    · exact (hs (List.length_eq_zero_iff.1 (by omega))).elim
    · exact h
  have hn1 : ¬ left.toList = [] := fun e => by
    rw [ByteArray.toList_eq] at e
    exact hs e
  have hn2 : left.toList.isEmpty = false := by simpa using hn1
  have c0 := h.c0
  have c1 := h.c1
  have c2 := h.c2
  have hz0 := h.z0
  have hzm := h.zm
  have hcal := h.cal
  have hmod : call % zn < zn := Nat.mod_lt _ hz0
  have c3 := h.r (call % zn) hmod
  have hpos := h.pos (call % zn) hmod
  have HH := Lib.hid h
  have HB := Lib.hid hB
  have hm1 : (call : Int).tmod (zn : Int) = ((call % zn : Nat) : Int) := by rw [Int.tmod_eq_emod_of_nonneg (by omega)]; exact (Int.natCast_emod _ _).symm
  have hm2 : (call : Int) % (zn : Int) = ((call % zn : Nat) : Int) := (Int.natCast_emod _ _).symm
  clear h hB hs
  go_enter Tryz.func138, Tryz.ntmps138
  go_wp2_with fail
  generalize call % zn = ix at *
  generalize hv : f ix = v at *
  clear hv
  have hz1 : ¬ (zn : Int) = 0 := by omega
  have hz2 : ¬ zn = 0 := by omega
  have hw1 : IntKind.i64.wrap (ix : Int) = (ix : Int) := by rw [IntKind.wrap_i64]; omega
  have x1 : (ix : Int) < (zn : Int) := by omega
  have x2 : (0 : Int) ≤ (ix : Int) := by omega
  obtain ⟨hv1, hv2⟩ := hpos
  obtain ⟨M, hM⟩ : ∃ M : Nat, (M : Int) = min (old.length : Int) v := ⟨(min (old.length : Int) v).toNat, by omega⟩
  have hM1 : M ≤ old.length := by omega
  have hM2 : 1 ≤ M := by omega
  have hmn : min (old.length : Int) v = (M : Int) := hM.symm
  clear hM
  have x3 : (M : Int) ≤ (c : Int) := by omega
  have x4 : (0 : Int) ≤ (M : Int) := by omega
  have HCP := Lib.hid (copy_string w.drew k o M c old left HB.out hM1)
  have HX := ps_next (k := k) (o := o) (m := min M left.size) (w := w) (w1 := w.drew) (HH.out.kept (Kept.refl (fun _ _ => False) w |>.drew) fun _ _ _ h => h) (Kept.refl (fun _ _ => False) w |>.drew) HB.out hkp hkz (by omega) (by omega) (by omega)
  unfold dropS at HX
  have hm3 : ((call + 1 : Nat) : Int) = (call : Int) + 1 := by omega
  rw [hm3] at HX
  replace HX := Lib.hid HX
  have hcp := HCP.out
  have hml : min M left.size ≤ left.size := by omega
  generalize min M left.size = m at *
  have hK5 : Kept (fun x _ => x = k) w.drew (w.drew.setCells k o (byteCells (left.data.toList.take m))) := (Kept.sets w.drew k o _).mono fun x y _ hh => hh.1
  have hlt := HH.out.lt
  have c0' : (w.drew.setCells k o (byteCells (left.data.toList.take m))).cell? ⟨pb, 0, none⟩ = some (.string left) := (hK5.cell pb 0 hlt fun h => hkp h.symm).trans c0
  have c2' : (w.drew.setCells k o (byteCells (left.data.toList.take m))).cell? ⟨pb, 2, none⟩ = some (.int .i64 (call : Nat)) := (hK5.cell pb 2 hlt fun h => hkp h.symm).trans c2
  have f0' : (w.drew.setCells k o (byteCells (left.data.toList.take m))).frozen? ⟨pb, 0, none⟩ = false := (hK5.frozen pb 0 hlt).trans (HH.out.fr 0 (by omega))
  have f2' : (w.drew.setCells k o (byteCells (left.data.toList.take m))).frozen? ⟨pb, 2, none⟩ = false := (hK5.frozen pb 2 hlt).trans (HH.out.fr 2 (by omega))
  clear HCP hK5 hlt hm3
  generalize byteCells (left.data.toList.take m) = bc at *
  go_still_tail 25, (by kernel_rfl)
  change wpList _ _ _ _ _ w.drew
  clear HH HB c0 c1 c2 c3 hm1 hm2 hmn
  have x5 : (m : Int) ≤ (left.size : Int) := by omega
  generalize w.drew = w2 at *
  generalize w2.setCells k o bc = w3 at *
  go_wp2
  go_ret2
  exact HX.out
/-- What changed only where nothing changed. -/
theorem Kept.fix {S : Nat → Nat → Prop} {w w' : World} (h : Kept S w w') (hx : ∀ x o, x < w.heap.size → S x o → w'.heap[x]? = w.heap[x]?) : Grew w w' := by
  have hb : ∀ b, b < w.heap.size → w'.heap[b]? = w.heap[b]? := fun b hb => by
    by_cases hs : ∃ o, S b o
    · obtain ⟨o, ho⟩ := hs; exact hx b o hb ho
    · exact h.block b hb fun o ho => hs ⟨o, ho⟩
  exact ⟨h.os, h.tape, h.output, h.size, fun b o hb' _ => World.cell?_of_block (hb b hb'), h.frozen, fun b hb' _ => hb b hb', h.shape⟩
theorem ent_pieces (a b : Value) (W : World) : (callFunc 138 #[a, b]).run Tryz.prog W = .ok (.enter 138 #[a, b]) W := by kernel_rfl
theorem nil_pieces (b : Nat) (W : World) : (nilAhead 266 62 (.pointer (some ⟨b, 0, none⟩)) "Read").run Tryz.prog W = .ok (some false) W := by kernel_rfl
theorem meth_pieces (b : Nat) (W : World) : (method 266 62 (.pointer (some ⟨b, 0, none⟩)) "Read").run Tryz.prog W = .ok (138, .pointer (some ⟨b, 0, none⟩)) W := by kernel_rfl
/-- It is a reader. -/
theorem pieces_Rdr (B : Obj) (pb zb zo zn zc : Nat) (f : Nat → Int) : Rdr 62 (some ⟨pb, 0, none⟩) 138 (PS B pb zb zo zn zc f) (DB pb zb) :=
  ⟨nil_pieces pb, meth_pieces pb, ent_pieces, fun h hk hs => h.kept hk hs, fun h x hx => by
    obtain ⟨call, left, h1, _⟩ := h
    rcases hx with hx | hx
    · rw [hx]; exact h1.lt
    · rw [hx]; exact h1.r.lt h1.z0, fun s old k o c w hR hs hB h0 hmax hc hD => pieces_Read B pb zb zo zn zc f s old k o c w hR hs hB h0 hmax hc hD⟩
end Go.Proofs.YtoebcbmkkhbldaaGreatDoor
