/- impl.Chunks. -/
import Derived.Test.YtoebcbmkkhbldaaGreatDoorQLkr
import Derived.Test.YtoebcbmkkhbldaaGreatDoorQPie
import Derived.Test.YtoebcbmkkhbldaaGreatDoorQRdy
import Derived.Test.YtoebcbmkkhbldaaGreatDoorQNbs
import Derived.Deep.RegionHeld3
set_option linter.unusedVariables false
namespace Go.Proofs.YtoebcbmkkhbldaaGreatDoor
open Go.RowKit Go.Mem Sais Go.Lib Go.Wire
set_option maxRecDepth 100000

/-- A call of a Go function as one step of a region that draws. -/
theorem step_call_run {P : Program} {ops : Array Oper} {o : Oper} {a : Act} {w : World} {K : Act → World → Prop} {Q : Exit → Act → World → Prop} {E : Prop}
    (hg : o.guard = none) (f : FuncId) (o1 o2 o3 : Operand) (ts : Array TypeId) (hop : o.op = Op.call { callee := Callee.value (.func f), args := #[o1, o2, o3], argTypes := ts })
    (v1 v2 v3 : Value) (h1 : a.eval o1 = v1) (h2 : a.eval o2 = v2) (h3 : a.eval o3 = v3) (hent : ∀ W, (callFunc f #[v1, v2, v3]).run P W = .ok (.enter f #[v1, v2, v3]) W) (R : Ending → World → Prop) (hC : Calls P f #[v1, v2, v3] w R) (hr : ∀ e w', R e w' → ∃ v, e = .returned v) (hK : ∀ v w', R (.returned v) w' → K (a.put o.dst v) w') :
    if Region.wanted o (yielded ops a.tmps) = true then Oper.wp P o a w K Q else E := by
  have hw : Region.wanted o (yielded ops a.tmps) = true := by simp [Region.wanted, hg]
  rw [if_pos hw]
  unfold Oper.wp
  have h0 : (execOp a.eval o).run P w = .ok (.enter f #[v1, v2, v3]) w := by
    have h4 : a.eval (.func f) = .func (.func f) #[] #[] := rfl
    simp [execOp, hop, resolve, invoke, h1, h2, h3, h4, hent, Deferred.ofValue]
  rw [h0, Oper.upon_enter]
  refine hC.mono fun e w' h => ?_
  obtain ⟨v, rfl⟩ := hr e w' h
  exact hK v w' h
theorem ent_lookup (a b c : Value) (W : World) : (callFunc 27 #[a, b, c]).run Tryz.prog W = .ok (.enter 27 #[a, b, c]) W := by kernel_rfl
def ChPost (s t : ByteArray) (w : World) (e : Ending) (w' : World) : Prop := ∃ l v, e = .returned (.tuple #[v, .bool true]) ∧ IL l w' v ∧ l.Perm (ints (places s t)) ∧ Grew w w'
set_option maxHeartbeats 8000000 in
theorem chunks_any (s t : ByteArray) (zb zo zn zc : Nat) (f : Nat → Int) (w : World) (hs : s.size ≤ 1073741824) (ht : t.size ≤ 1073741824) (hr : Rd .i64 w zb zo zn f) (hf : ∀ j, j < zn → 1 ≤ f j ∧ f j ≤ 9223372036854775807) (hz0 : 0 < zn) (hzm : zn ≤ 1073741824) (hmax : MaxIs w) :
    Calls Tryz.prog 21 #[.string s, .slice (some ⟨zb, zo, none⟩) zn zc, .string t] w (ChPost s t w) := by
  have HNN := Lib.hid (new_nil w hmax)
  have HM := Lib.hid hmax
  have hgm := World.block_lt_of_cell? w _ hmax
  have hzw := hr.lt hz0
  have HR := Lib.hid hr
  obtain ⟨B, hB⟩ : ∃ B, w.heap[zb]? = some B := ⟨_, Array.getElem?_eq_getElem hzw⟩
  have HBB := Lib.hid hB
  clear hB
  have HF := Lib.hid hf
  clear hmax hr hf
  go_enter Tryz.func21, Tryz.ntmps21
  go_wp2_with fail
  refine HNN.out.mono ?_
  rintro e w1 ⟨xb, sb, rfl, hO1, hx, hsb, hk1⟩
  have HC1 := Lib.hid (written_any s w1 hs (HM.out.grew hk1))
  have HO1 := Lib.hid hO1
  have HK1 := Lib.hid hk1
  have hxl := hO1.lx
  have hsl := hO1.ls
  clear hO1 hk1 HNN
  go_wp2_with fail
  refine HC1.out.mono ?_
  rintro e w2 ⟨sa, hI, rfl, hk2⟩
  have hwl := wireS_len s sa hs hI
  have HIS := Lib.hid hI
  have hsz : (⟨(wireS s sa).toArray⟩ : ByteArray).size = (wireS s sa).length := by simp [ByteArray.size]
  have hs2 := hk2.size
  have hs1 := HK1.out.size
  have HK2 := Lib.hid (HK1.out.trans hk2)
  have hk3 : Grew w2 (w2.alloc (.cells #[.string ⟨(wireS s sa).toArray⟩, .slice (some ⟨zb, zo, none⟩) zn zc, .int .i64 0] 64)) := (Kept.refl _ w2).alloc _
  have hPS : PS B w2.heap.size zb zo zn zc f (wireS s sa ++ []) (w2.alloc (.cells #[.string ⟨(wireS s sa).toArray⟩, .slice (some ⟨zb, zo, none⟩) zn zc, .int .i64 0] 64)) := by
    refine ⟨0, ⟨(wireS s sa).toArray⟩, ⟨?_, ?_, ?_, fun o _ => ?_, HR.out.kept (HK2.out.trans hk3) fun _ _ h => h, HF.out, hz0, hzm, by omega, by rw [World.size_alloc]; omega, by rw [hsz]; omega, ((HK2.out.trans hk3).block zb hzw fun _ h => h).trans HBB.out⟩, by simp⟩
    · rw [World.cell?_alloc_new]; rfl
    · rw [World.cell?_alloc_new]; rfl
    · rw [World.cell?_alloc_new]; rfl
    · rw [World.frozen?_alloc_new]
  have hO3 := HO1.out.kept (hk2.trans hk3) (fun _ h => h) (fun _ h => h) (fun _ h => h)
  have HDM : Hid ((¬ DB w2.heap.size zb 0) ∨ ∀ s w, PS B w2.heap.size zb zo zn zc f s w → MaxIs w) := by
    by_cases hzg : zb = 0
    · refine .inr fun s' w' hp => ?_
      obtain ⟨_, _, h, _⟩ := hp
      have h1 := HM.out
      have h2 := HBB.out
      have h3 := h.hb
      rw [hzg] at h2 h3
      unfold MaxIs at h1 ⊢
      rw [World.cell?_of_block (h3.trans h2.symm)]; exact h1
    · refine .inl fun h => ?_
      rcases h with h | h
      · omega
      · exact hzg h.symm
  have HRB := Lib.hid (index_Read (pieces_Rdr B w2.heap.size zb zo zn zc f) xb sb sb 0 0 s.size none (chr s) sa [] _ hO3 hs (fun i _ => chr_lt s i) HIS.out hPS (HM.out.grew (HK2.out.trans hk3)) HDM.out (by omega) (fun h => by rcases h with h | h <;> omega) (fun h => by rcases h with h | h <;> omega) (fun h => by rcases h with h | h <;> omega))
  have HK3 := Lib.hid (HK2.out.trans hk3)
  clear HC1 hI hk2 HO1 hsz hwl hPS hO3 hk3 HIS HM HF HR HK1
  generalize (⟨(wireS s sa).toArray⟩ : ByteArray) = str at *
  go_wp2_with fail
  generalize w2.alloc (.cells #[.string str, .slice (some ⟨zb, zo, none⟩) zn zc, .int .i64 0] 64) = w3 at *
  refine HRB.out.mono ?_
  rintro e w4 ⟨rfl, tb', sb', c', d', hO4, hI4, hR4, hK4, _⟩
  have HK4 : Hid (Grew w w4) := by
    obtain ⟨call, left, hp, _⟩ := hR4
    have h1 : Kept (fun x _ => x = zb) w w4 := (HK3.out.mono fun _ _ _ h => h.elim).trans' hK4 fun x o hxx hh => by
      rcases hh with (hh | hh) | hh | hh | hh
      · omega
      · exact hh
      · omega
      · omega
      · omega
    exact Kept.fix h1 fun x o _ hh => by rw [hh, hp.hb, HBB.out]
  have HLK := Lib.hid (lookup_read s t xb tb' 0 c' sb' 0 c' sa _ w4.drew (hI4.grew (Kept.refl _ w4).drew) ht)
  clear hO4 hI4 hR4 hK4 HRB HK3 HK2
  have hc1 := run_str
  have HEX : Hid (∀ l v w5, IL l w5 v → l.Perm (ints (places s t)) → Grew (strW w4.drew t) w5 → ∃ v' w', (Builtin.append_ #[23, 23] 23 #[.slice none 0 0, v]).run Tryz.prog w5 = .ok v' w' ∧ Hid (ChPost s t w (.returned (.tuple #[v', .bool true])) w')) := fun l v w5 h1 h2 h3 => by
    have hl := lk_len h2
    obtain ⟨v', w', h4, h5, h6⟩ := append_copy h1 (by omega)
    exact ⟨v', w', h4, l, v', rfl, h5.il, h2, ((HK4.out.drew.trans (strW_grew w4.drew t)).trans h3).trans h6⟩
  go_wp2_with fail
  go_region_law (first
    | (refine step_call_run rfl 27 (.tmp 19) (.tmp 21) (.const (.int .i64 (-1))) _ rfl (.pointer (some ⟨xb, 0, none⟩)) (strV w4.drew t) (.int .i64 (-1)) (by simp [Act.eval]) (by simp [Act.eval]) (by simp [Act.eval]) (ent_lookup _ _ _) _ HLK.out (fun e w' h => by obtain ⟨l, v, h1, _⟩ := h; exact ⟨v, h1⟩) ?_; rintro v w5 ⟨l, vv, he, hl, hp, hk⟩; cases he; obtain ⟨v', w6, happ, HE⟩ := HEX.out l v w5 hl hp hk; clear hl hp hk)
    | (refine step_append_run rfl _ _ _ _ rfl _ _ rfl rfl _ _ happ ?_))
  all_goals (
    go_simp
    go_wp2
    go_ret2
    exact HE.out)
end Go.Proofs.YtoebcbmkkhbldaaGreatDoor
