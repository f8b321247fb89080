/- (*bytes.Buffer).Write. -/
import Derived.Test.YtoebcbmkkhbldaaDoorQGrx
import Derived.Test.YtoebcbmkkhbldaaDoorQGry
import Derived.Laws.CopyRow
set_option linter.unusedVariables false
namespace Go.Proofs.YtoebcbmkkhbldaaDoor
open Go.RowKit Go.Mem Sais Go.Lib Go.Wire
set_option maxRecDepth 100000

/-- What Write leaves. -/
def WrPost (b : Nat) (g : Option Nat) (l cs : List UInt8) (n : Nat) (w : World) (e : Ending) (w' : World) : Prop :=
  e = .returned (.tuple #[.int .i64 (n : Nat), .nilIface]) ∧ ∃ g', WB b g' (l ++ cs) w' ∧ Kept (OB b g) w w' ∧ (g' = g ∨ ∃ q, g' = some q ∧ w.heap.size ≤ q)
theorem heap_setRow_same {w : World} {q : Nat} {cur : Array Value} {t : TypeId} (c : Array Value) (h : w.heap[q]? = some (.cells cur t (0, 0))) : (w.setRow q c).heap[q]? = some (.cells c t (0, 0)) := setRow_heap w q cur c t (0, 0) h
theorem write_end {b q cap n : Nat} {g : Option Nat} {l cs : List UInt8} {lr lr0 : Int} {v0 : Value} {cur : Array Value} {w W1 : World} (h0 : w.heap[b]? = some (.cells #[v0, .int .i64 0, .int .i8 lr0] 32 (0, 0)))
    (hb : W1.heap[b]? = some (.cells #[.slice (some ⟨q, 0, none⟩) (l.length + n) cap, .int .i64 0, .int .i8 lr] 32 (0, 0))) (hq : W1.heap[q]? = some (.cells cur 5 (0, 0))) (h1 : l.length + n ≤ cap) (h2 : cap ≤ maxLen) (h3 : cur.size = cap)
    (h4 : cur.toList.take l.length = byteCells l) (h5 : w.heap.size ≤ q ∨ g = some q) (h6 : q ≠ b) (h7 : w.grownBy W1 (some b)) (hn : cs.length = n) :
    WrPost b g l cs n w (.returned (.tuple #[.int .i64 (n : Nat), .nilIface])) (W1.setRow q (cur.toList.take l.length ++ byteCells cs ++ cur.toList.drop (l.length + n)).toArray) := by
  have hsz : (cur.toList.take l.length ++ byteCells cs ++ cur.toList.drop (l.length + n)).toArray.size = cap := by
    simp [byteCells_length]; omega
  have hb' : (W1.setRow q (cur.toList.take l.length ++ byteCells cs ++ cur.toList.drop (l.length + n)).toArray).heap[b]? = W1.heap[b]? := setRow_other _ _ _ _ (Ne.symm h6)
  refine ⟨rfl, some q, ⟨lr, .inr ⟨q, cap, _, rfl, by rw [hb', hb]; simp [hn], heap_setRow_same _ hq, by simp; omega, h2, hsz, ?_, h6⟩⟩, ?_, ?_⟩
  · rw [h4, List.toList_toArray, List.take_append_of_le_length (by simp [byteCells_length])]
    rw [List.take_of_length_le (by simp [byteCells_length])]
    simp [byteCells]
  · refine Kept.blocks (S := fun k => k = b ∨ some k = g) h7.os h7.tape h7.output (by simpa using h7.size) fun k hk => ?_
    by_cases e1 : k = b
    · subst e1
      exact .inr ⟨.inl rfl, _, _, _, _, h0, hb'.trans hb, rfl⟩
    · have h8 := h7.block k hk (fun h => e1 (Option.some.inj h))
      by_cases e2 : k = q
      · subst e2
        rcases h5 with h5 | h5
        · omega
        · exact .inr ⟨.inr h5.symm, _, _, _, _, h8.symm.trans hq, heap_setRow_same _ hq, by rw [hsz, h3]⟩
      · exact .inl ((setRow_other _ _ _ _ e2).trans h8)
  · rcases h5 with h5 | h5
    · exact .inr ⟨q, rfl, h5⟩
    · exact .inl h5.symm
theorem write_none {b : Nat} {g : Option Nat} {l : List UInt8} {lr : Int} {ao : Option Addr} {cap : Nat} {w : World} (h : WB b g l w) (h0 : w.heap[b]? = some (.cells #[.slice ao l.length cap, .int .i64 0, .int .i8 lr] 32 (0, 0))) :
    WrPost b g l [] 0 w (.returned (.tuple #[.int .i64 (0 : Nat), .nilIface])) ((w.setCell ⟨b, 2, none⟩ (.int .i8 0)).setCell ⟨b, 0, none⟩ (.slice ao l.length cap)) := by
  have hb : ((w.setCell ⟨b, 2, none⟩ (.int .i8 0)).setCell ⟨b, 0, none⟩ (.slice ao l.length cap)).heap[b]? = some (.cells #[.slice ao l.length cap, .int .i64 0, .int .i8 0] 32 (0, 0)) := by
    rw [heap_setCell_same _ (heap_setCell_same _ h0)]; rfl
  have ho : ∀ k, k ≠ b → ((w.setCell ⟨b, 2, none⟩ (.int .i8 0)).setCell ⟨b, 0, none⟩ (.slice ao l.length cap)).heap[k]? = w.heap[k]? := fun k hk => by
    rw [Go.Mem.heap_setCell_other _ _ _ _ (fun e => hk e.symm), Go.Mem.heap_setCell_other _ _ _ _ (fun e => hk e.symm)]
  refine ⟨rfl, g, ?_, ?_, .inl rfl⟩
  · rw [List.append_nil]
    obtain ⟨lr', ⟨rfl, rfl, hb2⟩ | ⟨q, c2, cur, rfl, hb2, hq, r⟩⟩ := h
    · rw [hb2] at h0
      simp at h0
      obtain ⟨⟨rfl, rfl⟩, _⟩ := h0
      exact ⟨0, .inl ⟨rfl, rfl, hb⟩⟩
    · rw [hb2] at h0
      simp at h0
      obtain ⟨⟨rfl, rfl⟩, _⟩ := h0
      exact ⟨0, .inr ⟨q, c2, cur, rfl, hb, (ho q r.2.2.2.2).trans hq, r⟩⟩
  · refine Kept.blocks (S := fun k => k = b ∨ some k = g) rfl rfl rfl (by simp [World.setCell]) fun k hk => ?_
    by_cases e1 : k = b
    · subst e1
      exact .inr ⟨.inl rfl, _, _, _, _, h0, hb, rfl⟩
    · exact .inl (ho k e1)
/-- The state behind 'b.lastRead = opInvalid'. -/
theorem set_last {b : Nat} {v0 : Value} {lr : Int} {w : World} (h : w.heap[b]? = some (.cells #[v0, .int .i64 0, .int .i8 lr] 32 (0, 0))) : (w.setCell ⟨b, 2, none⟩ (.int .i8 0)).heap[b]? = some (.cells #[v0, .int .i64 0, .int .i8 0] 32 (0, 0)) := by
  rw [heap_setCell_same _ h]; rfl
theorem WrPost.lift {b : Nat} {l : List UInt8} {w W1 : World} {v0 : Value} {lr : Int} (h7 : (w.setCell ⟨b, 2, none⟩ (.int .i8 0)).grownBy W1 (some b)) : w.grownBy W1 (some b) := grownBy_trans (grownBy_setCell w b 2 _) h7
theorem infoU8 : (Tryd.prog.info? 5).map (·.size) = some 1 := by kernel_rfl
set_option maxHeartbeats 4000000 in
theorem write_room (b n c : Nat) (l cs : List UInt8) (a : Addr) (lr : Int) (w : World) (q cap : Nat) (cur1 : Array Value) (h0 : w.heap[b]? = some (.cells #[.slice (some ⟨q, 0, none⟩) l.length cap, .int .i64 0, .int .i8 lr] 32 (0, 0))) (hq : w.heap[q]? = some (.cells cur1 5 (0, 0))) (hlc : l.length ≤ cap) (hcm1 : cap ≤ maxLen) (hcs1 : cur1.size = cap) (htk : cur1.toList.take l.length = byteCells l) (hqb : q ≠ b) (hroom : n ≤ cap - l.length) (hn : cs.length = n) (hn1 : 1 ≤ n) (hab : a.block ≠ b) (hsrc : ∀ j v, (byteCells cs)[j]? = some v → w.cell? (a.add j) = some v) (hlim : l.length + n ≤ 140737488355328) :
    Calls Tryd.prog 109 #[.pointer (some ⟨b, 0, none⟩), .slice (some a) n c] w (WrPost b (some q) l cs n w) := by
  have c2 : w.cell? ⟨b, 2, none⟩ = some (.int .i8 lr) := by rw [cell_of_heap h0]; rfl
  have f2 : w.frozen? ⟨b, 2, none⟩ = false := frozen_of_heap h0 2
  have h0' := set_last h0
  have c0 : (w.setCell ⟨b, 2, none⟩ (.int .i8 0)).cell? ⟨b, 0, none⟩ = some (.slice (some ⟨q, 0, none⟩) l.length cap) := by rw [cell_of_heap h0']; rfl
  have f0 : (w.setCell ⟨b, 2, none⟩ (.int .i8 0)).frozen? ⟨b, 0, none⟩ = false := frozen_of_heap h0' 0
  have HT := Lib.hid (Tryd.Buffer_tryGrow_room b (some ⟨q, 0, none⟩) l.length cap n _ c0 f0 hlc hcm1 hroom)
  have hcm' := hcm1
  unfold maxLen at hcm'
  go_enter Tryd.func109, Tryd.ntmps109
  go_wp2_with fail
  refine HT.out.mono ?_
  rintro e W1 ⟨rfl, hW1⟩
  have hb1 : W1.heap[b]? = some (.cells #[.slice (some ⟨q, 0, none⟩) (l.length + n) cap, .int .i64 0, .int .i8 0] 32 (0, 0)) := by rw [hW1, heap_setCell_same _ h0']; rfl
  have hq1 : W1.heap[q]? = some (.cells cur1 5 (0, 0)) := by
    rw [hW1, Go.Mem.heap_setCell_other _ _ _ _ (fun e => hqb e.symm), Go.Mem.heap_setCell_other _ _ _ _ (fun e => hqb e.symm)]; exact hq
  have hg1 : w.grownBy W1 (some b) := by rw [hW1]; exact grownBy_setB (grownBy_setCell w b 2 _) 0 _
  clear hW1 HT c0 f0 c2 f2 h0'
  have d0 : W1.cell? ⟨b, 0, none⟩ = some (.slice (some ⟨q, 0, none⟩) (l.length + n) cap) := by rw [cell_of_heap hb1]; rfl
  have hne : ¬ cap = l.length := by omega
  have x1 : (l.length : Int) ≤ (l.length : Int) + (n : Int) := by omega
  have hsrc1 : ∀ j v, (byteCells cs)[j]? = some v → W1.cell? (a.add j) = some v := fun j v hj => hg1.cell (hsrc j v hj) (by rw [block_add]; exact fun e => hab (Option.some.inj e))
  have hcp := run_copy_row (P := Tryd.prog) W1 28 28 3 5 q l.length n (cap - l.length) a n c cur1 5 (byteCells cs) Tryd.underlying28 infoU8 hq1 (by rw [byteCells_length, hn]; exact (Nat.min_self n).symm) hsrc1 (by rw [byteCells_length, hn]; omega) (byte_one cs)
  rw [byteCells_length, hn] at hcp
  have HE := Lib.hid (write_end (g := (some q)) (l := l) (cs := cs) h0 hb1 hq1 (by omega) hcm1 hcs1 htk (.inr rfl) hqb hg1 hn)
  clear hsrc hsrc1 hg1 hb1 hq1 htk
  go_wp2
  go_ret2
  simpa using HE.out
set_option maxHeartbeats 4000000 in
theorem write_nil_small (b n c : Nat) (cs : List UInt8) (a : Addr) (lr : Int) (w : World) (h0 : w.heap[b]? = some (.cells #[.slice none 0 0, .int .i64 0, .int .i8 lr] 32 (0, 0))) (h64 : n ≤ 64) (hn : cs.length = n) (hn1 : 1 ≤ n) (hab : a.block ≠ b) (hsrc : ∀ j v, (byteCells cs)[j]? = some v → w.cell? (a.add j) = some v) (hlim : 0 + n ≤ 140737488355328) :
    Calls Tryd.prog 109 #[.pointer (some ⟨b, 0, none⟩), .slice (some a) n c] w (WrPost b none [] cs n w) := by
  have c2 : w.cell? ⟨b, 2, none⟩ = some (.int .i8 lr) := by rw [cell_of_heap h0]; rfl
  have f2 : w.frozen? ⟨b, 2, none⟩ = false := frozen_of_heap h0 2
  have h0' := set_last h0
  have c0 : (w.setCell ⟨b, 2, none⟩ (.int .i8 0)).cell? ⟨b, 0, none⟩ = some (.slice none 0 0) := by rw [cell_of_heap h0']; rfl
  have f0 : (w.setCell ⟨b, 2, none⟩ (.int .i8 0)).frozen? ⟨b, 0, none⟩ = false := frozen_of_heap h0' 0
  have HT := Lib.hid (Tryd.Buffer_tryGrow_none b none 0 0 n _ c0 (Nat.le_refl _) (Nat.zero_le _) (by omega))
  have HGR := Lib.hid (grow_small b n 0 _ h0' hn1 h64)
  
  go_enter Tryd.func109, Tryd.ntmps109
  go_wp2_with fail
  refine HT.out.mono ?_
  rintro e W0 ⟨rfl, hW0⟩
  subst hW0
  clear HT
  go_wp2_with fail
  refine HGR.out.mono ?_
  rintro e W1 ⟨rfl, q, cap, cur1, lr1, hb1, hq1, hc1, hcm1, hcs1, htk1, hqs, hqb, hgr⟩
  have hg1 : w.grownBy W1 (some b) := grownBy_trans (grownBy_setCell w b 2 _) hgr
  have hqs' : w.heap.size ≤ q := by rw [World.size_setCell] at hqs; exact hqs
  have hcm' := hcm1
  unfold maxLen at hcm'
  clear HGR c0 f0 c2 f2 h0' hgr hqs
  simp only [List.length_nil, Nat.zero_add] at hb1 hc1 htk1
  rw [show (([] : List UInt8).length : Int) = 0 from rfl]
  have d0 : W1.cell? ⟨b, 0, none⟩ = some (.slice (some ⟨q, 0, none⟩) n cap) := by rw [cell_of_heap hb1]; rfl
  have hne : ¬ cap = 0 := by omega
  have x1 : (0 : Int) ≤ (0 : Int) + (n : Int) := by omega
  have hsrc1 : ∀ j v, (byteCells cs)[j]? = some v → W1.cell? (a.add j) = some v := fun j v hj => hg1.cell (hsrc j v hj) (by rw [block_add]; exact fun e => hab (Option.some.inj e))
  have hcp := run_copy_row (P := Tryd.prog) W1 28 28 3 5 q 0 n cap a n c cur1 5 (byteCells cs) Tryd.underlying28 infoU8 hq1 (by rw [byteCells_length, hn]; exact (Nat.min_self n).symm) hsrc1 (by rw [byteCells_length, hn]; omega) (byte_one cs)
  rw [byteCells_length, hn] at hcp
  have HE := Lib.hid (write_end (g := none) (l := []) (cs := cs) h0 (by simpa using hb1) hq1 (by simpa using hc1) hcm1 hcs1 (by simp [byteCells]) (.inl hqs') hqb hg1 hn)
  clear hsrc hsrc1 hg1 hb1 hq1 htk1
  go_wp2
  go_ret2
  simpa using HE.out
set_option maxHeartbeats 4000000 in
theorem write_nil_big (b n c : Nat) (cs : List UInt8) (a : Addr) (lr : Int) (w : World) (h0 : w.heap[b]? = some (.cells #[.slice none 0 0, .int .i64 0, .int .i8 lr] 32 (0, 0))) (h64 : 64 < n) (hn : cs.length = n) (hn1 : 1 ≤ n) (hab : a.block ≠ b) (hsrc : ∀ j v, (byteCells cs)[j]? = some v → w.cell? (a.add j) = some v) (hlim : 0 + n ≤ 140737488355328) :
    Calls Tryd.prog 109 #[.pointer (some ⟨b, 0, none⟩), .slice (some a) n c] w (WrPost b none [] cs n w) := by
  have c2 : w.cell? ⟨b, 2, none⟩ = some (.int .i8 lr) := by rw [cell_of_heap h0]; rfl
  have f2 : w.frozen? ⟨b, 2, none⟩ = false := frozen_of_heap h0 2
  have h0' := set_last h0
  have c0 : (w.setCell ⟨b, 2, none⟩ (.int .i8 0)).cell? ⟨b, 0, none⟩ = some (.slice none 0 0) := by rw [cell_of_heap h0']; rfl
  have f0 : (w.setCell ⟨b, 2, none⟩ (.int .i8 0)).frozen? ⟨b, 0, none⟩ = false := frozen_of_heap h0' 0
  have HT := Lib.hid (Tryd.Buffer_tryGrow_none b none 0 0 n _ c0 (Nat.le_refl _) (Nat.zero_le _) (by omega))
  have HGR := Lib.hid (grow_big b n 0 _ h0' h64 (by omega))
  
  go_enter Tryd.func109, Tryd.ntmps109
  go_wp2_with fail
  refine HT.out.mono ?_
  rintro e W0 ⟨rfl, hW0⟩
  subst hW0
  clear HT
  go_wp2_with fail
  refine HGR.out.mono ?_
  rintro e W1 ⟨rfl, q, cap, cur1, lr1, hb1, hq1, hc1, hcm1, hcs1, htk1, hqs, hqb, hgr⟩
  have hg1 : w.grownBy W1 (some b) := grownBy_trans (grownBy_setCell w b 2 _) hgr
  have hqs' : w.heap.size ≤ q := by rw [World.size_setCell] at hqs; exact hqs
  have hcm' := hcm1
  unfold maxLen at hcm'
  clear HGR c0 f0 c2 f2 h0' hgr hqs
  simp only [List.length_nil, Nat.zero_add] at hb1 hc1 htk1
  rw [show (([] : List UInt8).length : Int) = 0 from rfl]
  have d0 : W1.cell? ⟨b, 0, none⟩ = some (.slice (some ⟨q, 0, none⟩) n cap) := by rw [cell_of_heap hb1]; rfl
  have hne : ¬ cap = 0 := by omega
  have x1 : (0 : Int) ≤ (0 : Int) + (n : Int) := by omega
  have hsrc1 : ∀ j v, (byteCells cs)[j]? = some v → W1.cell? (a.add j) = some v := fun j v hj => hg1.cell (hsrc j v hj) (by rw [block_add]; exact fun e => hab (Option.some.inj e))
  have hcp := run_copy_row (P := Tryd.prog) W1 28 28 3 5 q 0 n cap a n c cur1 5 (byteCells cs) Tryd.underlying28 infoU8 hq1 (by rw [byteCells_length, hn]; exact (Nat.min_self n).symm) hsrc1 (by rw [byteCells_length, hn]; omega) (byte_one cs)
  rw [byteCells_length, hn] at hcp
  have HE := Lib.hid (write_end (g := none) (l := []) (cs := cs) h0 (by simpa using hb1) hq1 (by simpa using hc1) hcm1 hcs1 (by simp [byteCells]) (.inl hqs') hqb hg1 hn)
  clear hsrc hsrc1 hg1 hb1 hq1 htk1
  go_wp2
  go_ret2
  simpa using HE.out
set_option maxHeartbeats 4000000 in
theorem write_row0 (b n c : Nat) (l cs : List UInt8) (a : Addr) (lr : Int) (w : World) (g cap0 : Nat) (cur : Array Value) (h0 : w.heap[b]? = some (.cells #[.slice (some ⟨g, 0, none⟩) l.length cap0, .int .i64 0, .int .i8 lr] 32 (0, 0))) (hg : w.heap[g]? = some (.cells cur 5 (0, 0))) (hlc : l.length ≤ cap0) (hcm : cap0 ≤ maxLen) (hcs : cur.size = cap0) (htk : cur.toList.take l.length = byteCells l) (hgb : g ≠ b) (hroom : cap0 - l.length < n) (hl0 : l.length = 0) (hn : cs.length = n) (hn1 : 1 ≤ n) (hab : a.block ≠ b) (hsrc : ∀ j v, (byteCells cs)[j]? = some v → w.cell? (a.add j) = some v) (hlim : l.length + n ≤ 140737488355328) :
    Calls Tryd.prog 109 #[.pointer (some ⟨b, 0, none⟩), .slice (some a) n c] w (WrPost b (some g) l cs n w) := by
  have c2 : w.cell? ⟨b, 2, none⟩ = some (.int .i8 lr) := by rw [cell_of_heap h0]; rfl
  have f2 : w.frozen? ⟨b, 2, none⟩ = false := frozen_of_heap h0 2
  have h0' := set_last h0
  have c0 : (w.setCell ⟨b, 2, none⟩ (.int .i8 0)).cell? ⟨b, 0, none⟩ = some (.slice (some ⟨g, 0, none⟩) l.length cap0) := by rw [cell_of_heap h0']; rfl
  have f0 : (w.setCell ⟨b, 2, none⟩ (.int .i8 0)).frozen? ⟨b, 0, none⟩ = false := frozen_of_heap h0' 0
  have HT := Lib.hid (Tryd.Buffer_tryGrow_none b (some ⟨g, 0, none⟩) l.length cap0 n _ c0 hlc hcm hroom)
  have HGR := Lib.hid ((grow_row0 b n g cap0 l hl0 cur 0 _ (by have := h0'; rw [hl0] at this; exact this) (by rw [Go.Mem.heap_setCell_other _ _ _ _ (fun e => hgb e.symm)]; exact hg) (Nat.zero_le _) hcm hcs (by have := htk; rw [hl0] at this; exact this) hgb (by omega) (by omega)))
  clear hl0 htk
  go_enter Tryd.func109, Tryd.ntmps109
  go_wp2_with fail
  refine HT.out.mono ?_
  rintro e W0 ⟨rfl, hW0⟩
  subst hW0
  clear HT
  go_wp2_with fail
  refine HGR.out.mono ?_
  rintro e W1 ⟨rfl, q, cap, cur1, lr1, hb1, hq1, hc1, hcm1, hcs1, htk1, hqs, hqb, hgr⟩
  have hg1 : w.grownBy W1 (some b) := grownBy_trans (grownBy_setCell w b 2 _) hgr
  have hqs' : w.heap.size ≤ q := by rw [World.size_setCell] at hqs; exact hqs
  have hcm' := hcm1
  unfold maxLen at hcm'
  clear HGR c0 f0 c2 f2 h0' hgr hqs
  have d0 : W1.cell? ⟨b, 0, none⟩ = some (.slice (some ⟨q, 0, none⟩) (l.length + n) cap) := by rw [cell_of_heap hb1]; rfl
  have hne : ¬ cap = l.length := by omega
  have x1 : (l.length : Int) ≤ (l.length : Int) + (n : Int) := by omega
  have hsrc1 : ∀ j v, (byteCells cs)[j]? = some v → W1.cell? (a.add j) = some v := fun j v hj => hg1.cell (hsrc j v hj) (by rw [block_add]; exact fun e => hab (Option.some.inj e))
  have hcp := run_copy_row (P := Tryd.prog) W1 28 28 3 5 q l.length n (cap - l.length) a n c cur1 5 (byteCells cs) Tryd.underlying28 infoU8 hq1 (by rw [byteCells_length, hn]; exact (Nat.min_self n).symm) hsrc1 (by rw [byteCells_length, hn]; omega) (byte_one cs)
  rw [byteCells_length, hn] at hcp
  have HE := Lib.hid (write_end (g := (some g)) (l := l) (cs := cs) h0 hb1 hq1 hc1 hcm1 hcs1 htk1 (.inl hqs') hqb hg1 hn)
  clear hsrc hsrc1 hg1 hb1 hq1 htk1
  go_wp2
  go_ret2
  simpa using HE.out
set_option maxHeartbeats 4000000 in
theorem write_rowm (b n c : Nat) (l cs : List UInt8) (a : Addr) (lr : Int) (w : World) (g cap0 : Nat) (cur : Array Value) (h0 : w.heap[b]? = some (.cells #[.slice (some ⟨g, 0, none⟩) l.length cap0, .int .i64 0, .int .i8 lr] 32 (0, 0))) (hg : w.heap[g]? = some (.cells cur 5 (0, 0))) (hlc : l.length ≤ cap0) (hcm : cap0 ≤ maxLen) (hcs : cur.size = cap0) (htk : cur.toList.take l.length = byteCells l) (hgb : g ≠ b) (hroom : cap0 - l.length < n) (hl0 : ¬ l.length = 0) (hn : cs.length = n) (hn1 : 1 ≤ n) (hab : a.block ≠ b) (hsrc : ∀ j v, (byteCells cs)[j]? = some v → w.cell? (a.add j) = some v) (hlim : l.length + n ≤ 140737488355328) :
    Calls Tryd.prog 109 #[.pointer (some ⟨b, 0, none⟩), .slice (some a) n c] w (WrPost b (some g) l cs n w) := by
  have c2 : w.cell? ⟨b, 2, none⟩ = some (.int .i8 lr) := by rw [cell_of_heap h0]; rfl
  have f2 : w.frozen? ⟨b, 2, none⟩ = false := frozen_of_heap h0 2
  have h0' := set_last h0
  have c0 : (w.setCell ⟨b, 2, none⟩ (.int .i8 0)).cell? ⟨b, 0, none⟩ = some (.slice (some ⟨g, 0, none⟩) l.length cap0) := by rw [cell_of_heap h0']; rfl
  have f0 : (w.setCell ⟨b, 2, none⟩ (.int .i8 0)).frozen? ⟨b, 0, none⟩ = false := frozen_of_heap h0' 0
  have HT := Lib.hid (Tryd.Buffer_tryGrow_none b (some ⟨g, 0, none⟩) l.length cap0 n _ c0 hlc hcm hroom)
  have HGR := Lib.hid ((grow_rowm b n g cap0 l.length l rfl cur 0 _ h0' (by rw [Go.Mem.heap_setCell_other _ _ _ _ (fun e => hgb e.symm)]; exact hg) hlc hcm hcs htk hgb hl0 hroom hlim))
  clear htk
  go_enter Tryd.func109, Tryd.ntmps109
  go_wp2_with fail
  refine HT.out.mono ?_
  rintro e W0 ⟨rfl, hW0⟩
  subst hW0
  clear HT
  go_wp2_with fail
  refine HGR.out.mono ?_
  rintro e W1 ⟨rfl, q, cap, cur1, lr1, hb1, hq1, hc1, hcm1, hcs1, htk1, hqs, hqb, hgr⟩
  have hg1 : w.grownBy W1 (some b) := grownBy_trans (grownBy_setCell w b 2 _) hgr
  have hqs' : w.heap.size ≤ q := by rw [World.size_setCell] at hqs; exact hqs
  have hcm' := hcm1
  unfold maxLen at hcm'
  clear HGR c0 f0 c2 f2 h0' hgr hqs
  have d0 : W1.cell? ⟨b, 0, none⟩ = some (.slice (some ⟨q, 0, none⟩) (l.length + n) cap) := by rw [cell_of_heap hb1]; rfl
  have hne : ¬ cap = l.length := by omega
  have x1 : (l.length : Int) ≤ (l.length : Int) + (n : Int) := by omega
  have hsrc1 : ∀ j v, (byteCells cs)[j]? = some v → W1.cell? (a.add j) = some v := fun j v hj => hg1.cell (hsrc j v hj) (by rw [block_add]; exact fun e => hab (Option.some.inj e))
  have hcp := run_copy_row (P := Tryd.prog) W1 28 28 3 5 q l.length n (cap - l.length) a n c cur1 5 (byteCells cs) Tryd.underlying28 infoU8 hq1 (by rw [byteCells_length, hn]; exact (Nat.min_self n).symm) hsrc1 (by rw [byteCells_length, hn]; omega) (byte_one cs)
  rw [byteCells_length, hn] at hcp
  have HE := Lib.hid (write_end (g := (some g)) (l := l) (cs := cs) h0 hb1 hq1 hc1 hcm1 hcs1 htk1 (.inl hqs') hqb hg1 hn)
  clear hsrc hsrc1 hg1 hb1 hq1 htk1
  go_wp2
  go_ret2
  simpa using HE.out
set_option maxHeartbeats 4000000 in
theorem write_zero (b c cap : Nat) (g : Option Nat) (l : List UInt8) (pa ao : Option Addr) (lr : Int) (w : World) (hW : WB b g l w) (h0 : w.heap[b]? = some (.cells #[.slice ao l.length cap, .int .i64 0, .int .i8 lr] 32 (0, 0))) (hlc : l.length ≤ cap) (hcm : cap ≤ maxLen) :
    Calls Tryd.prog 109 #[.pointer (some ⟨b, 0, none⟩), .slice pa 0 c] w (WrPost b g l [] 0 w) := by
  have c2 : w.cell? ⟨b, 2, none⟩ = some (.int .i8 lr) := by rw [cell_of_heap h0]; rfl
  have f2 : w.frozen? ⟨b, 2, none⟩ = false := frozen_of_heap h0 2
  have h0' := set_last h0
  have c0 : (w.setCell ⟨b, 2, none⟩ (.int .i8 0)).cell? ⟨b, 0, none⟩ = some (.slice ao l.length cap) := by rw [cell_of_heap h0']; rfl
  have f0 : (w.setCell ⟨b, 2, none⟩ (.int .i8 0)).frozen? ⟨b, 0, none⟩ = false := frozen_of_heap h0' 0
  have HT := Lib.hid (Tryd.Buffer_tryGrow_room b ao l.length cap 0 _ c0 f0 hlc hcm (Nat.zero_le _))
  have HE := Lib.hid (write_none hW h0)
  have hcm' := hcm
  unfold maxLen at hcm'
  have hce : ∀ d dLen dCap W, (Builtin.copy_ #[28, 28] 3 #[.slice d dLen dCap, .slice pa 0 c]).run Tryd.prog W = .ok (goInt 0) W := fun d dLen dCap W => run_copy_none W _ _ _ 5 d pa dLen dCap 0 c Tryd.underlying28 infoU8 (by simp)
  rw [show ((0 : Nat) : Int) = 0 from rfl, Nat.add_zero] at HT
  go_enter Tryd.func109, Tryd.ntmps109
  go_wp2_with fail
  refine HT.out.mono ?_
  rintro e W1 ⟨rfl, hW1⟩
  have d0 : W1.cell? ⟨b, 0, none⟩ = some (.slice ao l.length cap) := by
    have : W1.heap[b]? = some (.cells #[.slice ao l.length cap, .int .i64 0, .int .i8 0] 32 (0, 0)) := by rw [hW1, heap_setCell_same _ h0']; rfl
    rw [cell_of_heap this]; rfl
  rw [← hW1] at HE
  clear hW1 HT c0 f0 c2 f2 h0' h0 hW
  go_wp2
  all_goals (go_ret2; simpa using HE.out)
/-- What is known of the bytes that are written: none, or cells of another block. -/
def SrcV (b : Nat) (cs : List UInt8) (w : World) (v : Value) : Prop := (cs = [] ∧ ∃ pa c, v = .slice pa 0 c) ∨ ∃ sb so c, v = .slice (some ⟨sb, so, none⟩) cs.length c ∧ sb ≠ b ∧ Br w sb so cs
theorem buffer_Write (b : Nat) (g : Option Nat) (l cs : List UInt8) (v : Value) (w : World) (hW : WB b g l w) (hv : SrcV b cs w v) (hlim : l.length + cs.length ≤ 140737488355328) :
    Calls Tryd.prog 109 #[.pointer (some ⟨b, 0, none⟩), v] w (WrPost b g l cs cs.length w) := by
  have hz : ∀ pa c, cs = [] → Calls Tryd.prog 109 #[.pointer (some ⟨b, 0, none⟩), .slice pa 0 c] w (WrPost b g l cs cs.length w) := fun pa c h => by
    subst h
    have hW' := hW
    obtain ⟨lr, ⟨rfl, rfl, hb⟩ | ⟨q, cap, cur, rfl, hb, hq, h1, h2, h3, h4, h5⟩⟩ := hW'
    · exact write_zero b c 0 none [] pa none lr w hW hb (Nat.le_refl _) (Nat.zero_le _)
    · exact write_zero b c cap (some q) l pa _ lr w hW hb h1 h2
  rcases hv with ⟨h, pa, c, rfl⟩ | ⟨sb, so, c, rfl, hsb, hr⟩
  · exact hz pa c h
  · by_cases h0 : cs.length = 0
    · rw [h0]
      have := hz (some ⟨sb, so, none⟩) c (List.eq_nil_of_length_eq_zero h0)
      rwa [h0] at this
    · have hsrc : ∀ j v, (byteCells cs)[j]? = some v → w.cell? ((⟨sb, so, none⟩ : Addr).add j) = some v := fun j v hj => by
        have hjl : j < cs.length := by
          have := (List.getElem?_eq_some_iff.1 hj).1; rwa [byteCells_length] at this
        rw [Addr.add_lit, hr.get j hjl]
        simpa [byteCells, hjl] using hj
      obtain ⟨lr, ⟨rfl, rfl, hb⟩ | ⟨q, cap, cur, rfl, hb, hq, h1, h2, h3, h4, h5⟩⟩ := hW
      · by_cases h64 : cs.length ≤ 64
        · exact write_nil_small b cs.length c cs _ lr w hb h64 rfl (by omega) hsb hsrc (by simpa using hlim)
        · exact write_nil_big b cs.length c cs _ lr w hb (by omega) rfl (by omega) hsb hsrc (by simpa using hlim)
      · by_cases hr1 : cs.length ≤ cap - l.length
        · exact write_room b cs.length c l cs _ lr w q cap cur hb hq h1 h2 h3 h4 h5 hr1 rfl (by omega) hsb hsrc hlim
        · by_cases hl0 : l.length = 0
          · exact write_row0 b cs.length c l cs _ lr w q cap cur hb hq h1 h2 h3 h4 h5 (by omega) hl0 rfl (by omega) hsb hsrc hlim
          · exact write_rowm b cs.length c l cs _ lr w q cap cur hb hq h1 h2 h3 h4 h5 (by omega) hl0 rfl (by omega) hsb hsrc hlim
end Go.Proofs.YtoebcbmkkhbldaaDoor
