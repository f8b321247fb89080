/- (*bytes.Buffer).grow where there is no row. -/
import Derived.Test.YtoebcbmkkhbldaaDoorQByt
import Derived.Lib.BufferOwn
set_option linter.unusedVariables false
namespace Go.Proofs.YtoebcbmkkhbldaaDoor
open Go.RowKit Go.Mem Sais Go.Lib Go.Wire
set_option maxRecDepth 100000

/-- What grow leaves: a new row. -/
def GrPost (b n : Nat) (l : List UInt8) (w : World) (e : Ending) (w' : World) : Prop :=
  e = .returned (.int .i64 (l.length : Nat)) ∧ ∃ q cap cur lr, w'.heap[b]? = some (.cells #[.slice (some ⟨q, 0, none⟩) (l.length + n) cap, .int .i64 0, .int .i8 lr] 32 (0, 0)) ∧ w'.heap[q]? = some (.cells cur 5 (0, 0)) ∧
    l.length + n ≤ cap ∧ cap ≤ maxLen ∧ cur.size = cap ∧ cur.toList.take l.length = byteCells l ∧ w.heap.size ≤ q ∧ q ≠ b ∧ w.grownBy w' (some b)
theorem heap_setCell_same {w : World} {b i : Nat} {c : Array Value} {t : TypeId} {fz : Nat × Nat} (v : Value) (h : w.heap[b]? = some (.cells c t fz)) : (w.setCell ⟨b, i, none⟩ v).heap[b]? = some (.cells (c.setIfInBounds i v) t fz) := by
  simp [World.setCell, Array.getElem?_modify, h]
theorem Tryd.makeU8c (u : World) (n c : Nat) (hn : n ≤ c) (hc : c ≤ 1073741824) : (Instr.makeSlice 28 (.int .i64 (n : Int)) (.int .i64 (c : Int))).run Tryd.prog u =
    .ok (.slice (some ⟨u.heap.size, 0, none⟩) n c) (u.alloc (.cells (madeCells #[.int .u8 0] c) 5)) := by
  obtain ⟨i0, hi, hz0, hz1, hz2⟩ := info_parts (show (Tryd.prog.info? 5).map (fun i => (i.zero, i.size, i.bytes)) = some (some (.int .u8 0), 1, 1) by kernel_rfl)
  have h := run_make (P := Tryd.prog) u 28 5 i0 (.int .u8 0) Tryd.underlying28 hi hz0 .i64 .i64 (n : Int) (c : Int) (by omega) (by omega) (by rw [hz2]; omega) (by omega)
  simpa [hz1, Value.cells] using h
set_option maxHeartbeats 4000000 in
theorem grow_small (b n : Nat) (lr : Int) (w : World) (hb : w.heap[b]? = some (.cells #[.slice none 0 0, .int .i64 0, .int .i8 lr] 32 (0, 0))) (hn : 1 ≤ n) (h64 : n ≤ 64) :
    Calls Tryd.prog 112 #[.pointer (some ⟨b, 0, none⟩), .int .i64 (n : Nat)] w (GrPost b n [] w) := by
  have hW : WB b none [] w := ⟨lr, .inl ⟨rfl, rfl, hb⟩⟩
  have HL := Lib.hid (Tryd.Buffer_Len 0 b [] w hW.is)
  have c0 : w.cell? ⟨b, 0, none⟩ = some (.slice none 0 0) := by rw [cell_of_heap hb]; rfl
  have c1 : w.cell? ⟨b, 1, none⟩ = some (.int .i64 0) := by rw [cell_of_heap hb]; rfl
  have f0 : w.frozen? ⟨b, 0, none⟩ = false := frozen_of_heap hb 0
  have hlt := lt_of_heap hb
  have HB := Lib.hid hb
  clear hW hb
  have hnil : ∀ W, (binOp .eql 28 (.slice none 0 0) (.slice none 0 0)).run Tryd.prog W = .ok (.bool true) W := fun W => by
    have := Lib.run_eql_slice_nil (P := Tryd.prog) W 28 _ none 0 0 0 0 Tryd.underlying28
    simpa using this
  have h1 : (n : Int) ≤ 64 := by omega
  go_enter Tryd.func112, Tryd.ntmps112
  go_wp2_with fail
  refine HL.out.mono ?_
  rintro e w1 ⟨rfl, k, rfl⟩
  clear HL
  replace c0 : (w.drewN k).cell? ⟨b, 0, none⟩ = some (.slice none 0 0) := c0
  replace c1 : (w.drewN k).cell? ⟨b, 1, none⟩ = some (.int .i64 0) := c1
  replace f0 : (w.drewN k).frozen? ⟨b, 0, none⟩ = false := f0
  have HG : Hid (w.grownBy (w.drewN k) (some b)) := ⟨rfl, rfl, rfl, Nat.le_refl _, fun _ _ _ => rfl⟩
  replace HB : Hid ((w.drewN k).heap[b]? = some (.cells #[.slice none 0 0, .int .i64 0, .int .i8 lr] 32 (0, 0))) := HB
  have HSZ : Hid ((w.drewN k).heap.size = w.heap.size) := rfl
  have hlt' : b < (w.drewN k).heap.size := hlt
  have hbe : b ≠ (w.drewN k).heap.size := Nat.ne_of_lt hlt'
  generalize w.drewN k = w1 at *
  have HT := Lib.hid (Tryd.Buffer_tryGrow_none b none 0 0 n w1 c0 (Nat.le_refl _) (Nat.zero_le _) (by omega))
  go_wp2_with fail
  refine HT.out.mono ?_
  rintro e w2 ⟨rfl, rfl⟩
  clear HT
  have hmk := Tryd.makeU8c w2 n 64 h64 (by omega)
  rw [show ((64 : Nat) : Int) = 64 from rfl] at hmk
  go_wp2
  go_ret
  have h1 : ((w2.setCell ⟨b, 0, none⟩ (.slice (some ⟨w2.heap.size, 0, none⟩) n 64)).alloc (.cells (madeCells #[.int .u8 0] 64) 5)).heap[b]? = some (.cells #[.slice (some ⟨w2.heap.size, 0, none⟩) n 64, .int .i64 0, .int .i8 lr] 32 (0, 0)) := by
    rw [Go.Mem.heap_alloc_old _ _ _ (by rw [World.size_setCell]; exact hlt'), heap_setCell_same _ HB.out]; rfl
  have h2 : ((w2.setCell ⟨b, 0, none⟩ (.slice (some ⟨w2.heap.size, 0, none⟩) n 64)).alloc (.cells (madeCells #[.int .u8 0] 64) 5)).heap[w2.heap.size]? = some (.cells (madeCells #[.int .u8 0] 64) 5 (0, 0)) := by
    have := heap_alloc_new (w2.setCell ⟨b, 0, none⟩ (.slice (some ⟨w2.heap.size, 0, none⟩) n 64)) (.cells (madeCells #[.int .u8 0] 64) 5)
    rwa [World.size_setCell] at this
  refine ⟨rfl, w2.heap.size, 64, _, lr, by simpa using h1, h2, by simpa using h64, by decide, by simp [madeCells], by simp [byteCells], by rw [HSZ.out]; exact Nat.le_refl _, Ne.symm hbe, grownBy_allocR (grownBy_setB HG.out 0 _) _⟩
/-- The end of grow, behind growSlice. -/
theorem grow_end {b n q cap : Nat} {l : List UInt8} {sv : Value} {lr : Int} {cur : Array Value} {w w2 : World} (hb : w2.heap[b]? = some (.cells #[sv, .int .i64 0, .int .i8 lr] 32 (0, 0))) (hq : w2.heap[q]? = some (.cells cur 5 (0, 0)))
    (h1 : l.length + n ≤ cap) (h2 : cap ≤ maxLen) (h3 : cur.size = cap) (h4 : cur.toList.take l.length = byteCells l) (h5 : w.heap.size ≤ q) (h6 : q ≠ b) (h7 : w.grownBy w2 (some b)) (v1 : Value) :
    GrPost b n l w (.returned (.int .i64 (l.length : Nat))) (((w2.setCell ⟨b, 0, none⟩ v1).setCell ⟨b, 1, none⟩ (.int .i64 0)).setCell ⟨b, 0, none⟩ (.slice (some ⟨q, 0, none⟩) (l.length + n) cap)) := by
  refine ⟨rfl, q, cap, cur, lr, ?_, ?_, h1, h2, h3, h4, h5, h6, grownBy_setB (grownBy_setB (grownBy_setB h7 0 _) 1 _) 0 _⟩
  · rw [heap_setCell_same _ (heap_setCell_same _ (heap_setCell_same _ hb))]; rfl
  · have h6' : ∀ o, (⟨b, o, none⟩ : Addr).block ≠ q := fun o e => h6 e.symm
    rw [Go.Mem.heap_setCell_other _ _ _ _ (h6' 0), Go.Mem.heap_setCell_other _ _ _ _ (h6' 1), Go.Mem.heap_setCell_other _ _ _ _ (h6' 0)]; exact hq
set_option maxHeartbeats 4000000 in
theorem grow_big (b n : Nat) (lr : Int) (w : World) (hb : w.heap[b]? = some (.cells #[.slice none 0 0, .int .i64 0, .int .i8 lr] 32 (0, 0))) (h64 : 64 < n) (hlim : n ≤ 140737488355328) :
    Calls Tryd.prog 112 #[.pointer (some ⟨b, 0, none⟩), .int .i64 (n : Nat)] w (GrPost b n [] w) := by
  have hW : WB b none [] w := ⟨lr, .inl ⟨rfl, rfl, hb⟩⟩
  have HL := Lib.hid (Tryd.Buffer_Len 0 b [] w hW.is)
  have c0 : w.cell? ⟨b, 0, none⟩ = some (.slice none 0 0) := by rw [cell_of_heap hb]; rfl
  have c1 : w.cell? ⟨b, 1, none⟩ = some (.int .i64 0) := by rw [cell_of_heap hb]; rfl
  have f0 : w.frozen? ⟨b, 0, none⟩ = false := frozen_of_heap hb 0
  have f1 : w.frozen? ⟨b, 1, none⟩ = false := frozen_of_heap hb 1
  have hlt := lt_of_heap hb
  have HB := Lib.hid hb
  clear hW hb
  have hnil : ∀ W, (binOp .eql 28 (.slice none 0 0) (.slice none 0 0)).run Tryd.prog W = .ok (.bool true) W := fun W => by
    have := Lib.run_eql_slice_nil (P := Tryd.prog) W 28 _ none 0 0 0 0 Tryd.underlying28
    simpa using this
  have h1 : ¬ (n : Int) ≤ 64 := by omega
  have hn0 : ¬ (n : Int) ≤ 0 := by omega
  go_enter Tryd.func112, Tryd.ntmps112
  go_wp2_with fail
  refine HL.out.mono ?_
  rintro e w1 ⟨rfl, k, rfl⟩
  clear HL
  replace c0 : (w.drewN k).cell? ⟨b, 0, none⟩ = some (.slice none 0 0) := c0
  replace c1 : (w.drewN k).cell? ⟨b, 1, none⟩ = some (.int .i64 0) := c1
  replace f0 : (w.drewN k).frozen? ⟨b, 0, none⟩ = false := f0
  replace f1 : (w.drewN k).frozen? ⟨b, 1, none⟩ = false := f1
  have HG : Hid (w.grownBy (w.drewN k) (some b)) := ⟨rfl, rfl, rfl, Nat.le_refl _, fun _ _ _ => rfl⟩
  replace HB : Hid ((w.drewN k).heap[b]? = some (.cells #[.slice none 0 0, .int .i64 0, .int .i8 lr] 32 (0, 0))) := HB
  have HSZ : Hid ((w.drewN k).heap.size = w.heap.size) := rfl
  have hlt' : b < (w.drewN k).heap.size := hlt
  have hbe : b ≠ (w.drewN k).heap.size := Nat.ne_of_lt hlt'
  generalize w.drewN k = w1 at *
  have HT := Lib.hid (Tryd.Buffer_tryGrow_none b none 0 0 n w1 c0 (Nat.le_refl _) (Nat.zero_le _) (by omega))
  go_wp2_with fail
  refine HT.out.mono ?_
  rintro e w2 ⟨rfl, hw2⟩
  have hw2' := hw2.symm
  subst hw2'
  clear HT hw2
  have hwn : IntKind.i64.wrap (n : Int) = n := by rw [IntKind.wrap_i64]; omega
  go_wp2_with fail
  go_region_with (
      go_at_call 114
      refine (Tryd.bytes_growSlice_nil n _ (by omega) hlim).mono ?_
      rintro e w3 ⟨cap2, cells, rfl, hN, hcsz, hcap2, hcm2, hbel⟩
      have hb3 : w3.heap[b]? = some (.cells #[.slice none 0 0, .int .i64 0, .int .i8 lr] 32 (0, 0)) := (hbel.block b hlt').trans HB.out
      have d0 : w3.cell? ⟨b, 0, none⟩ = some (.slice none 0 0) := by rw [cell_of_heap hb3]; rfl
      have d1 : w3.cell? ⟨b, 1, none⟩ = some (.int .i64 0) := by rw [cell_of_heap hb3]; rfl
      have e0 : w3.frozen? ⟨b, 0, none⟩ = false := frozen_of_heap hb3 0
      have e1 : w3.frozen? ⟨b, 1, none⟩ = false := frozen_of_heap hb3 1)
  all_goals (
    go_wp2
    go_ret
    have HE := grow_end (n := n) (l := []) (w := w) hb3 hN (by simpa using hcap2) hcm2 hcsz (by simp [byteCells]) (by show w.heap.size ≤ w1.heap.size; rw [HSZ.out]; exact Nat.le_refl _) (Ne.symm hbe) (grownBy_below (w := w1.drew) ⟨HG.out.os, HG.out.tape, HG.out.output, HG.out.size, HG.out.block⟩ hbel) (.slice (some ⟨w1.heap.size, 0, none⟩) 0 cap2)
    simpa using HE)
end Go.Proofs.YtoebcbmkkhbldaaDoor
