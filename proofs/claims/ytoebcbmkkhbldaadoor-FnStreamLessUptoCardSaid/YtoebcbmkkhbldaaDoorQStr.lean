/- impl.Stream. -/
import Derived.Test.YtoebcbmkkhbldaaDoorQSt1
import Derived.Test.YtoebcbmkkhbldaaDoorQChk
import Derived.OwnWalk
set_option linter.unusedVariables false
namespace Go.Proofs.YtoebcbmkkhbldaaDoor
open Go.RowKit Go.Mem Sais Go.Lib Go.Wire
set_option maxRecDepth 100000

set_option maxHeartbeats 16000000 in
theorem stream_any (ts : List ByteArray) (js : List Nat) (m : Nat) (s : ByteArray) (tv jv : Value) (w : World) (ht : ∀ t ∈ ts, t.size ≤ 1048576) (hl : ts.length ≤ 1048576) (hs : s.size ≤ 1073741824) (hT : TS ts w tv) (hJ : IL (ints js) w jv) (hjl : js.length = ts.length) (hj : ∀ j ∈ js, j < m) (hm : m ≤ 1048576) (hmax : MaxIs w) :
    Calls Tryd.prog 4 #[tv, jv, .int .i64 (m : Nat), .string s] w (StPost ts js m s w) := by
  have hk1 : Grew w (w.alloc (.cells #[.slice none 0 0, .int .i64 0, .int .i8 0] 32)) := (Kept.refl _ w).alloc _
  have HW1 : Hid (WB w.heap.size none [] (w.alloc (.cells #[.slice none 0 0, .int .i64 0, .int .i8 0] 32))) := WB.fresh w
  have HK1 := Lib.hid hk1
  have HM := Lib.hid hmax
  have HMB := Lib.hid (World.block_lt_of_cell? w _ hmax)
  have HT := Lib.hid hT
  have HJ := Lib.hid hJ
  have HTS := Lib.hid ht
  have HJJ := Lib.hid hj
  obtain ⟨ta, tc, rfl⟩ := hT.shape
  obtain ⟨ja, jc, rfl⟩ := hJ.shape
  rw [ints_length, hjl] at HJ ⊢
  have HJL := Lib.hid hjl
  clear hk1 hmax hT hJ ht hj hjl
  go_enter Tryd.func4, Tryd.ntmps4
  go_wp2_with fail
  generalize w.alloc (.cells #[.slice none 0 0, .int .i64 0, .int .i8 0] 32) = w1 at *
  go_loopw [10, 21, 13] (fun fv iv _ wr => S1Rel w.heap.size ts w fv iv wr) (fun _ iv _ _ => ts.length - (RowKit.intOf iv).toNat)
  case atStart => exact ⟨0, none, [], Nat.zero_le _, rfl, rfl, HW1, rfl, HK1, fun q h => by cases h⟩
  case round =>
    clear HW1 HK1
    obtain ⟨k, g, l, hk, rfl, rfl, HW, HL, HG, HQ⟩ := hrel
    by_cases hlt : k < ts.length
    · obtain ⟨b, o, c, e, _, hcell⟩ := HT.out.cells (by omega)
      injection e with ea en ec
      subst ea ec
      have hck := hcell k hlt
      have c1 : wr.cell? ⟨b, o + k, none⟩ = some (.string ts[k]) := (HG.out.cell _ _ (World.block_lt_of_cell? w _ hck) fun h => h).trans hck
      have y1 : (k : Int) < (ts.length : Int) := by omega
      have htk := HTS.out ts[k] (List.getElem_mem hlt)
      have hcv := run_str wr ts[k]
      have hlen := (HL.out.len (fun t h => HTS.out t (List.mem_of_mem_take h))).1
      rw [List.length_take] at hlen
      have HN := Lib.hid (new_ix (chr ts[k]) ts[k].size wr.heap.size 0 (grownCap wr ts[k].size 0 5) (strV wr ts[k]) (some ⟨wr.heap.size, 0, none⟩) (strW wr ts[k]) (by omega) (fun i _ => chr_lt ts[k] i) rfl (strV_text wr ts[k]) (HM.out.grew (HG.out.trans (strW_grew wr ts[k]))))
      have HST : Hid (∀ (sa : Nat → Int) (w2 w3 : World) (g' : Option Nat), IsSA (chr ts[k]) ts[k].size sa → Grew w w2 → WB w.heap.size g' (l ++ wireS ts[k] sa) w3 → Kept (OB w.heap.size g) w2 w3 → (g' = g ∨ ∃ q, g' = some q ∧ w2.heap.size ≤ q) → S1Rel w.heap.size ts w (.bool true) (.int .i64 ((k + 1 : Nat) : Int)) w3) := fun sa w2 w3 g' h1 h2 h3 h4 h5 => s1_step hlt (Nat.le_refl _) h2 HQ.out HL.out ⟨sa, h1, rfl⟩ h3 h4 h5
      clear hcell hck HT HJ HTS HJJ HJL HQ HL
      generalize ts[k] = tk at *
      go_wp2_with fail
      refine HN.out.mono ?_
      rintro e w2 ⟨xb, sb, sa, rfl, hI, hx, hsb, _, hk2, _, _⟩
      have hk12 := (strW_grew wr tk).trans hk2
      have hb := HW.out.lt
      have hst := (strW_grew wr tk).size
      have HWI := Lib.hid (index_Write w.heap.size xb tk.size _ _ _ sb 0 _ g l (chr tk) sa _ w2 (HW.out.kept hk12 (fun _ h => h) (fun _ _ _ h => h)) hI ⟨by omega, fun e => by have := (hb.2 _ e.symm).1; omega⟩ (fun _ => ⟨by omega, fun e => by have := (hb.2 _ e.symm).1; omega⟩) ⟨by omega, fun e => by have := (hb.2 _ e.symm).1; omega⟩ (by omega))
      have HIS := Lib.hid hI.isa
      have HG2 := Lib.hid (HG.out.trans hk12)
      clear hI hx hsb hk2 hk12 HN HW HG hb hst hlen hcv c1
      unfold wrV at HWI
      go_wp2_with fail
      refine HWI.out.mono ?_
      rintro e w3 ⟨rfl, g', hW3, hK3, hg3⟩
      have HX := Lib.hid (HST.out sa w2 w3 g' HIS.out HG2.out hW3 hK3 hg3)
      clear hW3 hK3 hg3 HST HIS HG2 HWI
      go_wp2
      go_roundw
      case rel => exact HX.out
      case measure => simp [RowKit.intOf]; omega
    · have hkl : k = ts.length := by omega
      obtain ⟨q, hl1, hR1, hq1, hq2, hb2⟩ := s1_end HTS.out hkl (Nat.le_refl _) HW.out HL.out HQ.out
      have HL1 := Lib.hid hl1; have HR1 := Lib.hid hR1
      subst hkl
      clear hl1 hR1 HW HL HQ hlt hk
      obtain ⟨wa, hwa⟩ : ∃ wa, wa = wr := ⟨_, rfl⟩
      subst hwa
      have HGa := HG
      clear HG
      go_wp2_with fail
      go_loopw [14, 36] (fun lv iv wr => S2Rel wa m lv iv wr) (fun _ iv _ => m - (RowKit.intOf iv).toNat)
      case atStart => exact ⟨0, fun _ => 0, fun _ => 0, fun _ => 0, Nat.zero_le _, rfl, OV.nil _ _ _, Ixs.none _ _ _ _ _ _ _, Kept.refl _ _⟩
      case round =>
        obtain ⟨k, X, TB, SB, hk, rfl, HO, HI, HG⟩ := hrel
        by_cases hlt : k < m
        · have HN := Lib.hid (new_nil wr (HM.out.grew (HGa.out.trans HG.out)))
          have y1 : (k : Int) < (m : Int) := by omega
          go_wp2_with fail
          refine HN.out.mono ?_
          rintro e w1 ⟨xb, sb, rfl, hOw, hx, hsb, hk1⟩
          obtain ⟨v', w', happ, ho', hG', hgr, hb⟩ := append_ptr xb 35 39 (HG.out.trans hk1) (HO.out.grew hk1) (by rw [pv_length]; omega)
          have HX := Lib.hid (s2_step hlt HO.out HI.out HG.out hOw hx hsb hk1 ho' hG' hgr hb)
          clear hOw hx hsb hk1 ho' hG' hgr hb HO HI HG HN
          go_wp2_with (at_builtin; refine wpList_append_run rfl _ _ _ _ rfl _ _ rfl rfl _ _ happ ?_)
          go_roundw
          case rel => exact HX.out
          case measure => simp [RowKit.intOf]; omega
        · obtain rfl : k = m := by omega
          obtain ⟨la, lc, hlv⟩ := VL.shape HO.out.vl
          subst hlv
          rw [pv_length] at *
          have HLA : Hid (∀ x, la = some x → wa.heap.size ≤ x.block ∧ x.block < wr.heap.size) := fun x hx => World.ownsRow.lt HO.out x.block (by subst hx; rfl)
          have HST3 : Hid (S3Rel w.heap.size q k wa.heap.size wr.heap.size (Value.slice la k lc).ownBlock X ts js (.slice la k lc) w (.bool true) (.int .i64 0) wr) :=
            ⟨0, TB, SB, l, Nat.zero_le _, rfl, rfl, by rw [List.drop_zero]; exact HL1.out, fun h => (HR1.out h).kept HG.out fun _ _ _ h => h, HI.out, HO.out.vl, HGa.out.trans HG.out, Nat.le_refl _⟩
          have HLN : Hid (wa.heap.size ≤ wr.heap.size) := HG.out.size
          have HWA : Hid (w.heap.size ≤ wa.heap.size) := HGa.out.size
          clear HO HI HG hlt hk HL1 HR1 HGa
          obtain ⟨wb, hwb⟩ : ∃ wb, wb = wr := ⟨_, rfl⟩
          subst hwb
          go_wp2_with fail
          go_loopw [10, 45, 16] (fun fv iv _ wr => S3Rel w.heap.size q k wa.heap.size wb.heap.size (Value.slice la k lc).ownBlock X ts js (.slice la k lc) w fv iv wr) (fun _ iv _ _ => ts.length - (RowKit.intOf iv).toNat)
          case atStart => exact HST3.out
          case round =>
            clear HST3
            obtain ⟨i, TB, SB, rest, hi, rfl, rfl, HR, HRB, HI, HV, HG, HZ⟩ := hrel
            by_cases hlt : i < ts.length
            · have hjlt : i < js.length := by rw [HJL.out]; exact hlt
              obtain ⟨b1, o1, c1, e, _, hcell1⟩ := HJ.out.cells (by rw [ints_length]; omega)
              rw [ints_length, HJL.out] at e
              injection e with ea en ec
              subst ea ec
              have hck1 : w.cell? ⟨b1, o1 + i, none⟩ = some (.int .i64 (js[i] : Nat)) := by
                have := hcell1 i (by rw [ints_length]; exact hjlt)
                rw [this]; simp [ints, nint]
              have d1 := (HG.out.cell _ _ (World.block_lt_of_cell? w _ hck1) fun h => h).trans hck1
              have y1 : (i : Int) < (ts.length : Int) := by omega
              have hjm := HJJ.out js[i] (List.getElem_mem hjlt)
              have hgd : js.getD i 0 = js[i] := by simp [hjlt]
              have htk := HTS.out ts[i] (List.getElem_mem hlt)
              obtain ⟨a, rest', ⟨sa, hsa, rfl⟩, hw', rfl⟩ := HR.out.drop hlt
              have HST : Hid (∀ (w' : World), IrPost (RB w.heap.size q) (DB w.heap.size q) rest' (X js[i]) (TB js[i]) (SB js[i]) ts[i].size (chr ts[i]) sa wr (.returned .nilIface) w' → S3Rel w.heap.size q k wa.heap.size wb.heap.size (Value.slice la k lc).ownBlock X ts js (.slice la k lc) w (.bool true) (.int .i64 ((i + 1 : Nat) : Int)) w') := fun w' hp =>
                s3_step hlt hgd hjm (Nat.le_refl _) hq1 hb2 hq2 HWA.out HLA.out HLN.out HZ.out hw' HI.out HV.out HG.out hp
              obtain ⟨ci, di, sai, hO, hX⟩ := HI.out.ix js[i] hjm
              have hlx := HI.out.lo js[i] (X js[i]) hjm (.inl rfl)
              have hlt' := HI.out.lo js[i] (TB js[i]) hjm (.inr (.inl rfl))
              have hls := HI.out.lo js[i] (SB js[i]) hjm (.inr (.inr rfl))
              have hmb := HMB.out
              have hwa := HWA.out
              have HRD := Lib.hid (read_buffer ts[i] w.heap.size q (X js[i]) (TB js[i]) (SB js[i]) ci _ di sa rest' wr hO (by omega) hsa (HRB.out (by omega)) (HM.out.grew HG.out) (fun h => by rcases h with h | h <;> omega) (by omega) (fun h => by rcases h with h | h <;> omega) (fun h => by rcases h with h | h <;> omega) (fun h => by rcases h with h | h <;> omega))
              obtain ⟨b2, o2, c2, e, _, hcell2⟩ := HV.out.cells (by rw [pv_length]; omega)
              rw [pv_length] at e
              injection e with ea en ec
              subst ea ec
              have d2 : wr.cell? ⟨b2, o2 + js[i], none⟩ = some (.pointer (some ⟨X js[i], 0, none⟩)) := by
                have := hcell2 js[i] (by rw [pv_length]; exact hjm)
                rw [this, pv_get]
              have y2 : ((js[i] : Nat) : Int) < (k : Int) := by omega
              clear hcell1 hcell2 hck1 hO hX hlx hlt' hls hmb hwa HR HRB HI HV HG HZ hsa hw' HT HJ HTS HJJ hgd HLA HJL htk
              generalize X js[i] = xj at *
              generalize TB js[i] = tj at *
              generalize SB js[i] = sj at *
              generalize js[i] = ji at *
              generalize ts[i] = ti at *
              go_wp2_with fail
              refine HRD.out.mono ?_
              intro e w' hp
              obtain ⟨he, hp2⟩ := hp
              subst he
              have HX := Lib.hid (HST.out w' ⟨rfl, hp2⟩)
              clear hp2 HST HRD
              go_wp2
              go_roundw
              case rel => exact HX.out
              case measure => simp [RowKit.intOf]; omega
            · obtain rfl : i = ts.length := by omega
              have HTZ : Hid (∀ j, (lastT ts js ts.length j).size ≤ 1048576) := fun j => lastT_size HTS.out js _ j
              have HF : Hid (∀ vs v1 v2 (w' : World), VL vs w' v1 → vs.length = k → LL2 s (lastT ts js ts.length) vs w' → TS ((List.range k).map (lastT ts js ts.length)) w' v2 → Grew w w' → StPost ts js k s w (.returned (.tuple #[v1, v2, .bool true])) w') := fun vs v1 v2 w' h1 h2 h3 h4 h5 => ⟨vs, v1, v2, rfl, h1, h2, h3, h4, h5⟩
              obtain ⟨wc, hwc⟩ : ∃ wc, wc = wr := ⟨_, rfl⟩
              subst hwc
              have HGC := HG
              clear HR HRB HZ HLA HLN HWA hlt hi HT HJ HTS HJJ HM HMB HG
              generalize lastT ts js ts.length = T at *
              go_wp2_with fail
              go_loopw [8, 9, 62, 18] (fun ov dv iv _ wr => S4Rel wc k s T ov dv iv wr) (fun _ _ iv _ _ => k - (RowKit.intOf iv).toNat)
              case atStart => exact ⟨0, [], Nat.zero_le _, rfl, rfl, OV.nil _ _ _, OV.nil _ _ _, fun j h => (Nat.not_lt_zero _ h).elim, Kept.refl _ _⟩
              case round =>
                obtain ⟨j, vs, hj, rfl, hvs, HO, HD, HL, HG⟩ := hrel
                by_cases hlt : j < k
                · obtain ⟨b2, o2, c2, e, _, hcell2⟩ := HV.out.cells (by rw [pv_length]; omega)
                  rw [pv_length] at e
                  injection e with ea en ec
                  subst ea ec
                  have hc2 := hcell2 j (by rw [pv_length]; exact hlt)
                  rw [pv_get] at hc2
                  have d2 : wr.cell? ⟨b2, o2 + j, none⟩ = some (.pointer (some ⟨X j, 0, none⟩)) := (HG.out.cell _ _ (World.block_lt_of_cell? wc _ hc2) fun h => h).trans hc2
                  have y2 : (j : Int) < (k : Int) := by omega
                  obtain ⟨ci, di, sai, hO, hX⟩ := HI.out.ix j hlt
                  have HC := Lib.hid (lookup_read (T j) s (X j) (TB j) 0 ci (SB j) 0 ci sai _ wr (hX.grew HG.out) hs)
                  have hcv := run_str wr s
                  have HBY := Lib.hid (IxT.bytes hO hX)
                  have HX0 := Lib.hid hX.c0
                  have hszj := HTZ.out j
                  have HLT := Lib.hid hlt
                  clear hcell2 hc2 hO hX
                  go_wp2_with fail
                  refine HC.out.mono ?_
                  rintro e w2 ⟨l2, v, rfl, hil, hp, hk2⟩
                  have hg2 := (strW_grew wr s).trans hk2
                  have hll := lk_len hp
                  obtain ⟨v3, w3, happ1, hol, hk3⟩ := append_copy hil (by omega)
                  obtain ⟨xa, xc, hxs⟩ := hol.il.shape
                  subst hxs
                  have hG3 := hg2.trans hk3
                  obtain ⟨v4, w4, happ2, ho4, hG4, hgr4⟩ := append_list 26 23 hol.tl.one (HG.out.trans hG3) (HO.out.grew hG3) (by omega)
                  have hd4 := s4_mid HO.out HD.out hG3 hgr4
                  obtain ⟨v5, w5, happ3, ho5, hG5, hgr5⟩ := append_strG (T j) 9 22 hG4 hd4 (by rw [List.length_map, List.length_range]; omega)
                  have HX := Lib.hid (s4_step HLT.out hvs HO.out HD.out HL.out hG3 hol.tl hp ho4 hgr4 ho5 hG5 hgr5 hd4)
                  have c0 : w4.cell? ⟨X j, 0, none⟩ = some (.slice di (T j).size ci) := (hG4.cell _ 0 (World.block_lt_of_cell? wc _ HX0.out) fun h => h).trans HX0.out
                  have HB := Lib.hid (index_Bytes (X j) _ w4 c0)
                  have hst := run_toString (Grew.byteV HBY.out hG4)
                  rw [str_of_bts] at hst
                  clear hil hp hk2 hg2 hll hol hk3 hG3 ho4 hG4 hgr4 hd4 ho5 hG5 hgr5 HO HD HL HG HC HBY HX0 c0 hcv
                  go_wp2_with (first | (at_builtin; refine wpList_append_run rfl _ _ _ _ rfl _ _ rfl rfl _ _ happ1 ?_) | (at_builtin; refine wpList_append_run rfl _ _ _ _ rfl _ _ rfl rfl _ _ happ2 ?_))
                  refine HB.out.mono ?_
                  rintro e w6 ⟨rfl, rfl⟩
                  clear HB
                  go_wp2_with (at_builtin; refine wpList_append_run rfl _ _ _ _ rfl _ _ rfl rfl _ _ happ3 ?_)
                  go_roundw
                  case rel => exact HX.out
                  case measure => simp [RowKit.intOf]; omega
                · obtain rfl : j = k := by omega
                  have HP := Lib.hid (HF.out _ _ _ wr HO.out.vl hvs HL.out HD.out.vl (HGC.out.trans HG.out))
                  clear HO HD HL HG HF HI HV HGC HTZ
                  go_wp2
                  go_ret3
                  exact HP.out
end Go.Proofs.YtoebcbmkkhbldaaDoor
