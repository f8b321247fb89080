/- grow where the row is not empty. -/
import Derived.Test.YtoebcbmkkhbldaaDoorQGrw
set_option linter.unusedVariables false
namespace Go.Proofs.YtoebcbmkkhbldaaDoor
open Go.RowKit Go.Mem Sais Go.Lib Go.Wire
set_option maxRecDepth 100000

set_option maxHeartbeats 4000000 in
theorem grow_rowm (b n g cap m : Nat) (l : List UInt8) (hl : l.length = m) (cur : Array Value) (lr : Int) (w : World) (hb : w.heap[b]? = some (.cells #[.slice (some ⟨g, 0, none⟩) m cap, .int .i64 0, .int .i8 lr] 32 (0, 0))) (hg : w.heap[g]? = some (.cells cur 5 (0, 0))) (hlc : m ≤ cap) (hcm : cap ≤ maxLen) (hcs : cur.size = cap) (htk : cur.toList.take m = byteCells l) (hgb : g ≠ b) (hm0 : ¬ m = 0) (hroom : cap - m < n) (hlim : m + n ≤ 140737488355328) :
    Calls Tryd.prog 112 #[.pointer (some ⟨b, 0, none⟩), .int .i64 (n : Nat)] w (GrPost b n l w) := by
  have hW : WB b (some g) l w := ⟨lr, .inr ⟨g, cap, cur, rfl, by rw [hl]; exact hb, hg, by rw [hl]; exact hlc, hcm, hcs, by rw [hl]; exact htk, hgb⟩⟩
  have HL := Lib.hid (Tryd.Buffer_Len 0 b (byteCells l) w hW.is)
  have c0 : w.cell? ⟨b, 0, none⟩ = some (.slice (some ⟨g, 0, none⟩) m cap) := by rw [cell_of_heap hb]; rfl
  have c1 : w.cell? ⟨b, 1, none⟩ = some (.int .i64 0) := by rw [cell_of_heap hb]; rfl
  have f0 : w.frozen? ⟨b, 0, none⟩ = false := frozen_of_heap hb 0
  have f1 : w.frozen? ⟨b, 1, none⟩ = false := frozen_of_heap hb 1
  have hlt := lt_of_heap hb
  have HB := Lib.hid hb
  clear hW hb
  have hnil : ∀ W, (binOp .eql 28 (.slice (some ⟨g, 0, none⟩) m cap) (.slice none 0 0)).run Tryd.prog W = .ok (.bool false) W := fun W => Lib.run_eql_slice_some_nil W _ _ _ Tryd.underlying28
  have h1c : ∀ v ∈ cur.toList.take m, v.oneCell' = true := by rw [htk]; exact byte_one l
  have hc2 : cap ≤ 140737488355328 := by omega
  have HGC := Lib.hid hg
  have HTK := Lib.hid htk
  have HONE := Lib.hid h1c
  have hq1 : ¬ (n : Int) ≤ (cap : Int) / 2 - (m : Int) := by omega
  have hq2 : ¬ (n : Int) ≤ (cap : Int).tdiv 2 - (m : Int) := by rw [Int.tdiv_eq_ediv_of_nonneg (by omega)]; omega
  clear htk h1c hg
  have hmp : ¬ (m : Int) = 0 := by omega
  go_enter Tryd.func112, Tryd.ntmps112
  go_wp2_with fail
  refine HL.out.mono ?_
  rintro e w1 ⟨rfl, k, rfl⟩
  clear HL
  rw [byteCells_length, hl]
  replace c0 : (w.drewN k).cell? ⟨b, 0, none⟩ = some (.slice (some ⟨g, 0, none⟩) m cap) := c0
  replace c1 : (w.drewN k).cell? ⟨b, 1, none⟩ = some (.int .i64 0) := c1
  replace f0 : (w.drewN k).frozen? ⟨b, 0, none⟩ = false := f0
  replace f1 : (w.drewN k).frozen? ⟨b, 1, none⟩ = false := f1
  have HG : Hid (w.grownBy (w.drewN k) (some b)) := ⟨rfl, rfl, rfl, Nat.le_refl _, fun _ _ _ => rfl⟩
  replace HB : Hid ((w.drewN k).heap[b]? = some (.cells #[.slice (some ⟨g, 0, none⟩) m cap, .int .i64 0, .int .i8 lr] 32 (0, 0))) := HB
  replace HGC : Hid ((w.drewN k).heap[g]? = some (.cells cur 5 (0, 0))) := HGC
  have HSZ : Hid ((w.drewN k).heap.size = w.heap.size) := rfl
  have hlt' : b < (w.drewN k).heap.size := hlt
  have hbe : b ≠ (w.drewN k).heap.size := Nat.ne_of_lt hlt'
  generalize w.drewN k = w1 at *
  have HT := Lib.hid (Tryd.Buffer_tryGrow_none b (some ⟨g, 0, none⟩) m cap n w1 c0 hlc hcm hroom)
  go_wp2_with fail
  refine HT.out.mono ?_
  rintro e w2 ⟨rfl, hw2⟩
  have hw2' := hw2.symm
  subst hw2'
  clear HT hw2
  have hwn : IntKind.i64.wrap (n : Int) = n := by rw [IntKind.wrap_i64]; omega
  go_wp2_with fail
  go_region_with (
      go_at_call 114
      refine (Tryd.bytes_growSlice_row g m cap n cur _ ?_ hcs hlc (by omega) hlim hc2 HONE.out).mono ?_
      exact HGC.out
      rintro e w3 ⟨cap2, cells, rfl, hN, hcsz, htk2, hcap2, hcm2, hbel⟩
      have hb3 : w3.heap[b]? = some (.cells #[.slice (some ⟨g, 0, none⟩) m cap, .int .i64 0, .int .i8 lr] 32 (0, 0)) := (hbel.block b hlt').trans HB.out
      have d0 : w3.cell? ⟨b, 0, none⟩ = some (.slice (some ⟨g, 0, none⟩) m cap) := by rw [cell_of_heap hb3]; rfl
      have d1 : w3.cell? ⟨b, 1, none⟩ = some (.int .i64 0) := by rw [cell_of_heap hb3]; rfl
      have e0 : w3.frozen? ⟨b, 0, none⟩ = false := frozen_of_heap hb3 0
      have e1 : w3.frozen? ⟨b, 1, none⟩ = false := frozen_of_heap hb3 1)
  all_goals (
    go_wp2
    go_ret
    have HE := grow_end (n := n) (l := l) (w := w) hb3 hN (by rw [hl]; exact hcap2) hcm2 hcsz (by rw [hl]; exact htk2.trans HTK.out) (by show w.heap.size ≤ w1.heap.size; rw [HSZ.out]; exact Nat.le_refl _) (Ne.symm hbe) (grownBy_below (w := w1.drew) ⟨HG.out.os, HG.out.tape, HG.out.output, HG.out.size, HG.out.block⟩ hbel) (.slice (some ⟨w1.heap.size, 0, none⟩) m cap2)
    rw [hl] at HE
    simpa using HE)
end Go.Proofs.YtoebcbmkkhbldaaDoor
