/- (*Index).Read. -/
import Derived.Test.YtoebcbmkkhbldaaDoorQRdz
set_option linter.unusedVariables false
namespace Go.Proofs.YtoebcbmkkhbldaaDoor
open Go.RowKit Go.Mem Sais Go.Lib Go.Wire
set_option maxRecDepth 100000

set_option maxHeartbeats 8000000 in
theorem index_Read {t : TypeId} {rp : Option Addr} {F : Nat} {RS : List UInt8 → World → Prop} {D : Nat → Prop} (R : Rdr t rp F RS D) (xb tb sb c n0 n : Nat) (d : Option Addr) (T : Nat → Nat) (sa : Nat → Int) (rest : List UInt8) (w : World) (hO : Own w xb tb sb c n0 d) (hn : n ≤ 1073741824) (hT : ∀ i, i < n → T i < 256) (hI : IsSA T n sa)
    (hS : RS (wire (bts T n) (numsOf sa n) ++ rest) w) (hmax : MaxIs w) (hDm : ¬ D 0 ∨ ∀ s w, RS s w → MaxIs w) (hxm : xb ≠ 0) (hDx : ¬ D xb) (hDt : ¬ D tb) (hDs : ¬ D sb) :
    Calls Tryd.prog 7 #[.pointer (some ⟨xb, 0, none⟩), .iface t (.pointer rp)] w (IrPost RS D rest xb tb sb n T sa w) := by
  have hmk : ∀ u, (Instr.makeSlice 28 (.int .i64 16384) (.int .i64 16384)).run Tryd.prog u = .ok (.slice (some ⟨u.heap.size, 0, none⟩) 16384 16384) (u.alloc (.cells (madeCells #[.int .u8 0] 16384) 5)) := fun u => Tryd.makeU8 u 16384 (by omega)
  have hB1 : By (w.alloc (.cells (madeCells #[.int .u8 0] 16384) 5)) w.heap.size 0 (List.replicate 10 0 ++ List.replicate 16374 0) := By.made2 w 10 16374
  have hk1 : Grew w (w.alloc (.cells (madeCells #[.int .u8 0] 16384) 5)) := (Kept.refl _ w).alloc _
  have hks : w.heap.size < (w.alloc (.cells (madeCells #[.int .u8 0] 16384) 5)).heap.size := by rw [World.size_alloc]; omega
  have hDk : ¬ D w.heap.size := fun h => by have := R.lt hS _ h; omega
  have hwp : wire (bts T n) (numsOf sa n) ++ rest = first n ++ (bts T n ++ (chunks (first n) (numsOf sa n) ++ rest)) := by rw [wire_parts, bts_len]
  have hfl : (first n).length = 10 := first_len hn
  have hS1 := R.kept hS hk1 fun _ _ _ h => h
  rw [hwp] at hS1
  have HRI := readInt_any R _ (List.replicate 10 0) (List.replicate 16374 0) w.heap.size _ hS1 hB1 (by rw [List.length_replicate]) (by rw [List.length_replicate]) (by rw [List.length_append]; omega) hDk
  have hO1 := hO.kept hk1 (fun _ h => h) (fun _ h => h) (fun _ h => h)
  have hM1 := hmax.grew hk1
  have hgm := World.block_lt_of_cell? w _ hmax
  have hgm1 := World.block_lt_of_cell? _ _ hM1
  have HP1 : Hid (∀ e w2, RnPost RS D (first n ++ (bts T n ++ (chunks (first n) (numsOf sa n) ++ rest))) (List.replicate 16374 0) w.heap.size (w.alloc (.cells (madeCells #[.int .u8 0] 16384) 5)) e w2 → e = .returned (.tuple #[.int .i64 (n : Nat), .nilIface]) ∧ RS (bts T n ++ (chunks (first n) (numsOf sa n) ++ rest)) w2 ∧ (∃ b, By w2 w.heap.size 0 b ∧ b.length = 16384) ∧ Own w2 xb tb sb c n0 d ∧ MaxIs w2 ∧ Kept (fun x _ => D x) w w2 ∧ w.heap.size < w2.heap.size) := fun e w2 hp => by
    obtain ⟨h1, h2, h3, h4⟩ := hp
    rw [List.take_left' hfl] at h1 h3
    rw [List.drop_left' hfl] at h2
    rw [dec_first n _ hn] at h1
    have hno : ∀ x, x < w.heap.size → ¬ D x → ∀ o, ¬ (D x ∨ In w.heap.size 0 10 x o) := fun x hx hd o hh => hh.elim hd fun hh => by have := hh.1; omega
    refine ⟨h1, h2, ⟨_, h3, by rw [List.length_append, hfl, List.length_replicate]⟩, hO1.kept h4 (hno _ hO.lx hDx) (hno _ hO.lt hDt) (hno _ hO.ls hDs), hDm.elim (fun hDm => (h4.cell _ 0 hgm1 (hno _ hgm hDm 0)).trans hM1) (fun hDm => hDm _ _ h2), (hk1.mono fun _ _ _ h => h.elim).trans' h4 fun x o hx hh => hh.elim id fun hh => by have := hh.1; omega, Nat.lt_of_lt_of_le hks h4.size⟩
  clear hS1 hO1 hM1 hB1 hk1 hgm1 hfl hwp hks
  have HRI' := Lib.hid HRI
  have HR := Lib.hid R
  have HDx := Lib.hid hDx
  have HDt := Lib.hid hDt
  have HDs := Lib.hid hDs
  have HDk := Lib.hid hDk
  have HI := Lib.hid hI
  have HT := Lib.hid hT
  have HOLD := Lib.hid hO
  have HS0 := Lib.hid hS
  clear R HRI hO hS hmax hDx hDt hDs hDk hDm hI hT
  unfold bufV at *
  go_enter Tryd.func7, Tryd.ntmps7
  go_wp2_with fail
  refine HRI'.out.mono ?_
  rintro e w2 hp
  obtain ⟨he, hS2, hB2, hO2, hM2, hK2, hs2⟩ := HP1.out e w2 hp
  subst he
  clear hp HP1 HRI' hmk
  have c0 := hO2.c0
  have c1 := hO2.c1
  have c2 := hO2.c2
  have g0 : w2.cell? ⟨0, 0, none⟩ = some (.int .i64 2147483647) := hM2
  have hcb := hO2.cb
  have f0 := hO2.f 0 (by omega)
  have f1 := hO2.f 1 (by omega)
  have f2 := hO2.f 2 (by omega)
  have HO2 := Lib.hid hO2
  have HS2 := Lib.hid hS2
  have HB2 := Lib.hid hB2
  have HK2 := Lib.hid hK2
  clear hS2 hB2 hO2 hM2 hK2
  generalize hs1 : bts T n ++ (chunks (first n) (numsOf sa n) ++ rest) = s1 at *
  have HS1 := Lib.hid hs1
  clear hs1
  have y0 : decide ((n : Int) < 0) = false := by simp
  have y1 : IntKind.i64.wrap (2 * (n : Int)) = 2 * (n : Int) := by rw [IntKind.wrap_i64]; omega
  have q1 := Tryd.neq77s
  have q2 := nil64
  have y2 : ¬ (2147483647 : Int) < (n : Int) := by omega
  have y3 : (n : Int) ≤ 2147483647 := by omega
  go_upto_region 8 with fail
  go_cut [75] (fun v wx => ∃ bb : Bool, v = .bool bb ∧ w2 = wx ∧ Hid (bb = true ↔ (2 * n < c ∨ c < n)))
  case first =>
    by_cases h1 : 2 * n < c
    · have z1 : decide (2 * (n : Int) < (c : Int)) = true := by simp; omega
      go_wp2
      go_meet
      exact ⟨_, rfl, rfl, by show _ ↔ _; simp; omega⟩
    · have z1 : decide (2 * (n : Int) < (c : Int)) = false := by simp; omega
      by_cases h2 : c < n
      · have z2 : decide ((c : Int) < (n : Int)) = true := by simp; omega
        go_wp2
        go_meet
        exact ⟨_, rfl, rfl, by show _ ↔ _; simp; omega⟩
      · have z2 : decide ((c : Int) < (n : Int)) = false := by simp; omega
        have z3 : decide ((2147483647 : Int) < (n : Int)) = false := by simp; omega
        have z4 : decide ((n : Int) ≤ (2147483647 : Int)) = true := by simp; omega
        go_wp2
        go_meet
        exact ⟨_, rfl, rfl, by show _ ↔ _; simp; omega⟩
  case rest =>
    obtain ⟨bb, rfl, rfl, HBB⟩ := hcut
    go_upto_if 75 with fail
    go_cut [] (fun wx => Hid (RxMid RS D s1 w.heap.size xb tb sb n w wx))
    case first =>
      cases bb
      · have hb2 : ¬ (2 * n < c ∨ c < n) := fun hh => by have := HBB.out.2 hh; cases this
        have HSL := Lib.hid (ints_slice_zero xb 1 n0 c sb n (w2.setCell ⟨xb, 0, none⟩ (.slice d n c)) (by omega) hcb (by rw [World.cell?_setCell_other _ _ _ _ (by simp)]; exact c1))
        go_wp2_with fail
        refine HSL.out.mono ?_
        rintro e w3 ⟨rfl, hK3⟩
        have HRE := Lib.hid (own_re HO2.out hK3 (by omega))
        have hxl : xb < (w2.setCell ⟨xb, 0, none⟩ (.slice d n c)).heap.size := by rw [World.size_setCell]; exact HO2.out.lx
        have d1 : w3.cell? ⟨xb, 1, none⟩ = some (.slice (some ⟨sb, 0, none⟩) n0 c) := (hK3.cell xb 1 hxl fun h => h).trans (by rw [World.cell?_setCell_other _ _ _ _ (by simp)]; exact c1)
        have d2 : w3.cell? ⟨xb, 2, none⟩ = some (.slice none 0 0) := (hK3.cell xb 2 hxl fun h => h).trans (by rw [World.cell?_setCell_other _ _ _ _ (by simp)]; exact c2)
        have e1 : w3.frozen? ⟨xb, 1, none⟩ = false := (hK3.frozen xb 1 hxl).trans (by rw [World.frozen?_setCell]; exact f1)
        have e2 : w3.frozen? ⟨xb, 2, none⟩ = false := (hK3.frozen xb 2 hxl).trans (by rw [World.frozen?_setCell]; exact f2)
        clear hK3 HSL
        go_wp2
        go_meet
        exact HRE.out.mid HR.out HS2.out HB2.out HK2.out HDx.out HOLD.out rfl hs2
      · have hmk8 := fun u => Tryd.makeU8 u n hn
        have hmk32 := fun u => Tryd.make32 u n hn
        have hxl := HO2.out.lx
        have hx1 : xb ≠ w2.heap.size := Nat.ne_of_lt hxl
        have hx2 : xb ≠ w2.heap.size + 1 := by omega
        go_upto_region 12 with fail
        have HN1 := Lib.hid (new1 (n := n) HO2.out)
        generalize (((w2.setCell ⟨xb, 0, none⟩ (.slice (some ⟨w2.heap.size, 0, none⟩) n n)).setCell ⟨xb, 1, none⟩ (.slice none 0 0)).setCell ⟨xb, 2, none⟩ (.slice none 0 0)).alloc (.cells (madeCells #[.int .u8 0] n) 5) = W1 at *
        have HRE := Lib.hid (own_new (tb := tb) (sb := sb) HN1.out hn)
        have gA : W1.cell? ⟨0, 0, none⟩ = some (.int .i64 2147483647) := (HN1.out.k.cell _ 0 (World.block_lt_of_cell? _ _ g0) fun h => hxm h.symm).trans g0
        have d1 := HN1.out.c1
        have e1 := HN1.out.f 1 (by omega)
        have hx3 : xb ≠ W1.heap.size := by have := HN1.out.s; omega
        have hx4 : xb < W1.heap.size := by have := HN1.out.s; omega
        clear g0 c0 c1 c2 f0 f1 f2
        go_wp2
        go_meet
        exact HRE.out.mid HR.out HS2.out HB2.out HK2.out HDx.out HOLD.out rfl hs2
    case rest =>
      clear HBB HS2 HB2 HK2 HO2 c0 c1 c2 f0 f1 f2 g0
      obtain ⟨tb', sb', c', d', hO, hS, ⟨b, hB, hbl⟩, hK, hwh⟩ := hcut.out
      have c0 := hO.c0
      have hcb' := hO.cb
      have hnc := hO.nc
      have HO := Lib.hid hO
      have HS := Lib.hid hS
      have HB := Lib.hid hB
      have HBL := Lib.hid hbl
      have HK := Lib.hid hK
      have HWH := Lib.hid hwh
      have hw0 := HOLD.out
      have HDt' : Hid (¬ D tb') := by
        rcases hwh with ⟨e, _⟩ | ⟨e, _⟩
        · rw [e]; exact HDt.out
        · exact fun h => by have := HR.out.lt HS0.out _ h; omega
      have HDs' : Hid (¬ D sb') := by
        rcases hwh with ⟨_, e⟩ | ⟨_, e⟩
        · rw [e]; exact HDs.out
        · exact fun h => by have := HR.out.lt HS0.out _ h; omega
      have hkt : w.heap.size ≠ tb' := by
        rcases hwh with ⟨e, _⟩ | ⟨e, _⟩
        · have := hw0.lt; omega
        · omega
      have hks : w.heap.size ≠ sb' := by
        rcases hwh with ⟨_, e⟩ | ⟨_, e⟩
        · have := hw0.ls; omega
        · omega
      have hkx : xb ≠ w.heap.size := by have := hw0.lx; omega
      have hkc : w.heap.size < wc.heap.size := hB.lt (by rw [hbl]; omega)
      have hS' := hS
      rw [← HS1.out] at hS'
      have HRD := Lib.hid (read_data HR.out hO hS' (bts_len T n) HDt'.out HDx.out HDs'.out)
      clear hO hS hB hbl hK hwh hcut hgm hw0 hS'
      go_wp2_with fail
      refine HRD.out.mono ?_
      rintro e w3 ⟨rfl, hS3, hB3, hK3, hO3⟩
      have hBk := HB.out.kept hK3 fun j _ hh => hh.elim HDk.out hkt
      have HKw : Hid (Kept (OX D xb tb sb) w w3) := HK.out.trans' hK3 fun x o hx hh => by
        rcases hh with hh | hh
        · exact .inl hh
        · rcases HWH.out with ⟨e, _⟩ | ⟨e, _⟩
          · exact .inr (.inr (.inl (hh.trans e)))
          · omega
      have HB3 := Lib.hid hB3
      have HS3 := Lib.hid hS3
      have HBk := Lib.hid hBk
      have HO3 := Lib.hid hO3
      have c1 := hO3.c1
      have c2 := hO3.c2
      have hx3 : xb ≠ w3.heap.size := Nat.ne_of_lt hO3.lx
      have hkc3 : w.heap.size < w3.heap.size := Nat.lt_of_lt_of_le hkc hK3.size
      clear hS3 hB3 hBk hO3 hK3 HRD HB HS HK HO c0 hkc
      have hlN := numsOf_len sa n
      obtain ⟨f0, hf0⟩ := HO3.out.hs
      have HST := Lib.hid (rx_start (sa := sa) HR.out hn HS3.out HBk.out HBL.out hf0)
      have HLN := Lib.hid hlN
      have HL : Hid (∀ x ∈ numsOf sa n, x < n) := fun x hx => by
        unfold numsOf at hx
        obtain ⟨j, hj, rfl⟩ := List.mem_map.1 hx
        have := HI.out.lt (by simpa using hj : j < n); omega
      have HL2 : Hid (∀ x ∈ numsOf sa n, x < 4294967296) := fun x hx => by have := HL.out x hx; omega
      have HEND := Lib.hid (fun wr q => rx_end (rest := rest) (f0 := f0) (wr := wr) (q := q) (tb := tb) (sb := sb) HR.out hn HI.out HT.out HO3.out HB3.out HKw.out HWH.out HDx.out HDt'.out HDs'.out hkt hks hkx hkc3)
      have hDa : ¬ D w3.heap.size := fun h => by have := HR.out.lt HS3.out _ h; omega
      have HDa := Lib.hid hDa
      have hsa : sb' ≠ w3.heap.size := Nat.ne_of_lt HO3.out.ls
      have hka : w.heap.size ≠ w3.heap.size := Nat.ne_of_lt hkc3
      clear hDa hf0 hlN HB3 HS3 HBk HO3 HKw HWH HOLD HS0 HS1 HDx HDt HDs HI HT HDt'
      go_wp2_with fail
      generalize w3.alloc (.cells #[.slice (some ⟨sb', 0, none⟩) n c', .slice none 0 0] 46) = wd at *
      generalize w3.heap.size = ab at *
      generalize w.heap.size = k at *
      generalize numsOf sa n = l at *
      go_loopw [] (fun wr => RxRel RS D rest l k ab sb' c' f0 w3 wr) (fun wr => lenAt wr ⟨ab, 0, none⟩)
      case atStart => exact HST.out
      case round =>
        clear HST
        have HEN := Lib.hid (fun q => HEND.out wr q hrel)
        obtain ⟨i, so', h, b', hi, HSO', c0, c1, f0', f1', HS, HH10, HB, HH, HK⟩ := hrel
        by_cases hlt : i < l.length
        · obtain rfl := HSO'.out hlt
          have hln := HLN.out
          have hfl := fit_le (l.drop so') 10
          have hfp : 1 ≤ fit 10 (l.drop so') := fit_pos (by intro h; have := congrArg List.length h; simp at this; omega)
          have hne : l.drop so' ≠ [] := by intro h; have := congrArg List.length h; simp at this; omega
          have hdl : (l.drop so').length = l.length - so' := by rw [List.length_drop]
          rw [hdl] at hfl
          have habr := World.block_lt_of_cell? wr _ c0
          have HRS := fun q => readSlice_any HR.out h b' rest (l.drop so') k sb' so' (c' - so') n (fun j => f0 (so' + j)) (wr.drewN q) (HR.out.kept HS.out ((Kept.refl (fun _ _ => False) wr).drewN q) fun _ _ _ h => h) HH10.out hne HB.out.1 HB.out.2 (fun j hj => by
              rw [hdl] at hj
              have h1 := HH.out (so' + j) (by omega)
              dsimp only at h1
              rw [if_neg (by omega), Nat.zero_add] at h1
              exact h1) (fun x hx => HL.out x (List.mem_of_mem_drop hx)) hn (by omega) HDk.out HDs'.out hks
          rw [hdl] at HRS
          replace HRS := Lib.hid HRS
          unfold bufV at HRS
          have HSTEP : Hid (∀ (q : Nat) (w4 w5 : World) (e : Ending) (so'' : Nat), RsPost RS D h rest (l.drop so') k sb' so' (l.length - so') (fun j => f0 (so' + j)) (wr.drewN q) e w4 → (fit 10 (l.drop so') < l.length - so' → so'' = so' + fit 10 (l.drop so')) → Grew w4 w5 →
              RxRel RS D rest l k ab sb' c' f0 w3 ((w5.setCell ⟨ab, 0, none⟩ (.slice (some ⟨sb', so'', none⟩) (l.length - so' - fit 10 (l.drop so')) (c' - so' - fit 10 (l.drop so')))).setCell ⟨ab, 1, none⟩ (.slice none 0 0))) := fun q w4 w5 e so'' hp hso h5 =>
            rx_step (wr := wr.drewN q) HR.out hlt (by omega) HH10.out HL2.out hka hsa hks HDk.out HDa.out HDs'.out (by show (wr.cell? _).isSome = true; rw [c0]; rfl) (by show (wr.cell? _).isSome = true; rw [c1]; rfl) f0' f1' HH.out (HK.out.drewN q) hp hso h5
          have hnS : Hid (∀ o, ¬ SR D k sb' so' (l.length - so') ab o) := fun o hh => by
            rcases hh with (hh | hh) | hh
            · exact HDa.out hh
            · exact hka hh.symm
            · exact hsa hh.1.symm
          have hms : l.length - so' ≤ c' - so' := by omega
          have hmb : l.length - so' ≤ 1073741824 := by omega
          have hm0 : 0 < l.length - so' := by omega
          have HLA := Lib.hid (lenAt_eq c0)
          generalize l.length - so' = m at *
          generalize hKK : fit 10 (l.drop so') = K at *
          have HKK := Lib.hid hKK
          clear hKK hne hdl HS HB HH HK HEN HEND HSO' hlt hi hln
          have HLE := Lib.hid (ints_len ab 0 m (c' - so') (some ⟨sb', so', none⟩) wr hmb c0 c1)
          have y0 : (0 : Int) < (m : Int) := by omega
          have z6 : IntKind.u64.wrap (n : Int) = (n : Int) := by rw [IntKind.wrap_u64]; omega
          go_wp2_with fail
          refine HLE.out.mono ?_
          rintro e w4 ⟨rfl, q, rfl⟩
          replace c0 : (wr.drewN q).cell? ⟨ab, 0, none⟩ = some (.slice (some ⟨sb', so', none⟩) m (c' - so')) := c0
          replace c1 : (wr.drewN q).cell? ⟨ab, 1, none⟩ = some (.slice none 0 0) := c1
          replace f0' : (wr.drewN q).frozen? ⟨ab, 0, none⟩ = false := f0'
          replace f1' : (wr.drewN q).frozen? ⟨ab, 1, none⟩ = false := f1'
          replace habr : ab < (wr.drewN q).heap.size := habr
          replace HRS := Lib.hid (HRS.out q)
          replace HSTEP := Lib.hid (HSTEP.out q)
          clear HLE
          generalize wr.drewN q = w4 at *
          go_wp2_with fail
          refine HRS.out.mono ?_
          rintro e w5 hp
          replace HSTEP := Lib.hid (fun w6 so'' => HSTEP.out w5 w6 _ so'' hp)
          have hK4 : Kept (SR D k sb' so' m) w4 w5 := by obtain ⟨_, _, _, _, h⟩ := hp; exact h
          obtain ⟨he, _⟩ := hp
          rw [HKK.out] at he
          subst he
          replace c0 := (hK4.cell ab 0 habr (hnS.out 0)).trans c0
          replace c1 := (hK4.cell ab 1 habr (hnS.out 1)).trans c1
          replace f0' := (hK4.frozen ab 0 habr).trans f0'
          replace f1' := (hK4.frozen ab 1 habr).trans f1'
          replace habr := Nat.lt_of_lt_of_le habr hK4.size
          clear hK4 hnS HRS
          have HLE := Lib.hid (ints_len ab 0 m (c' - so') (some ⟨sb', so', none⟩) w5 hmb c0 c1)
          have HTA := Lib.hid (fun q => ints_slice_tail ab 0 m (c' - so') sb' so' K (w5.drewN q) hmb hfl hms c0)
          go_wp2_with fail
          refine HLE.out.mono ?_
          rintro e w6 ⟨rfl, q5, rfl⟩
          obtain ⟨so'', hso'', HTC⟩ := HTA.out q5
          replace HTC := Lib.hid HTC
          replace HSTEP := Lib.hid (fun w6 => HSTEP.out w6 so'' hso'')
          clear hso'' HTA HLE
          go_wp2_with fail
          refine HTC.out.mono ?_
          rintro e w6 ⟨rfl, hK6⟩
          have hK6' : Grew w5 w6 := ((Kept.refl _ w5).drewN q5).trans hK6
          replace HSTEP := Lib.hid (HSTEP.out w6 hK6')
          replace c0 := (hK6'.cell ab 0 habr (fun h => h)).trans c0
          replace c1 := (hK6'.cell ab 1 habr (fun h => h)).trans c1
          replace f0' := (hK6'.frozen ab 0 habr).trans f0'
          replace f1' := (hK6'.frozen ab 1 habr).trans f1'
          clear hK6 hK6' HTC
          have HME : Hid (lenAt ((w6.setCell ⟨ab, 0, none⟩ (.slice (some ⟨sb', so'', none⟩) (m - K) (c' - so' - K))).setCell ⟨ab, 1, none⟩ (.slice none 0 0)) ⟨ab, 0, none⟩ < m) := by
            show _ < _
            rw [lenAt_eq (p := some ⟨sb', so'', none⟩) (m := m - K) (c := c' - so' - K) (by rw [World.cell?_setCell_other _ _ _ _ (by simp), World.cell?_setCell_same _ _ _ c0])]
            omega
          go_wp2
          go_roundw
          case rel => exact HSTEP.out
          case measure => rw [HLA.out]; exact HME.out
        · have hm0 : l.length - i = 0 := by omega
          rw [hm0] at c0
          have HEX := Lib.hid (fun q => HEN.out q (lenAt_eq c0))
          have HLE := Lib.hid (ints_len ab 0 0 (c' - i) (some ⟨sb', so', none⟩) wr (by omega) c0 c1)
          clear hm0 hlt hi HEN HEND HS HB HH HK
          go_wp2_with fail
          refine HLE.out.mono ?_
          rintro e w4 ⟨rfl, q, rfl⟩
          go_wp2
          go_ret
          exact HEX.out q
end Go.Proofs.YtoebcbmkkhbldaaDoor
