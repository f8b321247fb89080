/- readSlice. -/
import Derived.Test.YtoebcbmkkhbldaaDoorQRdi
set_option linter.unusedVariables false
namespace Go.Proofs.YtoebcbmkkhbldaaDoor
open Go.RowKit Go.Mem Sais Go.Lib Go.Wire
set_option maxRecDepth 100000

/-- What readSlice may change: the reader, the buffer, the first K numbers of the row. -/
def SR (D : Nat → Prop) (k sb so K : Nat) : Nat → Nat → Prop := fun x y => (D x ∨ x = k) ∨ In sb so K x y
def RsPost (RS : List UInt8 → World → Prop) (D : Nat → Prop) (h rest : List UInt8) (l : List Nat) (k sb so m : Nat) (f : Nat → Int) (w : World) (e : Ending) (w' : World) : Prop :=
  e = .returned (.tuple #[.int .i64 (fit 10 l : Nat), .nilIface]) ∧ RS (chunks (head h l) (l.drop (fit 10 l)) ++ rest) w' ∧ (∃ b, By w' k 0 b ∧ b.length = 16384) ∧
    Hold .i32 w' sb so m (fun j => if j < fit 10 l then ((l.getD j 0 : Nat) : Int) else f j) ∧ Kept (SR D k sb so m) w w'
/-- The relation of the loop: i numbers are decoded. -/
def RsRel (l : List Nat) (sb so m : Nat) (f : Nat → Int) (w : World) (nv ev pv : Value) (wr : World) : Prop :=
  ∃ i : Nat, i ≤ fit 10 l ∧ nv = .int .i64 (i : Nat) ∧ ev = .nilIface ∧ pv = .int .i64 (10 + (enc (l.take i)).length : Nat) ∧ Hid (Hold .i32 wr sb so m (fun j => if j < i then ((l.getD j 0 : Nat) : Int) else f j)) ∧ Hid (Kept (In sb so m) w wr)
theorem rs_step {l : List Nat} {sb so m i : Nat} {f : Nat → Int} {w wr : World} (hi : i < m) (hil : i < l.length) (hH : Hold .i32 wr sb so m (fun j => if j < i then ((l.getD j 0 : Nat) : Int) else f j)) (hK : Kept (In sb so m) w wr) :
    Hold .i32 (wr.setCell ⟨sb, so + i, none⟩ (.int .i32 ((l[i] : Nat) : Int))) sb so m (fun j => if j < i + 1 then ((l.getD j 0 : Nat) : Int) else f j) ∧ Kept (In sb so m) w (wr.setCell ⟨sb, so + i, none⟩ (.int .i32 ((l[i] : Nat) : Int))) := by
  refine ⟨(hH.set hi _).congr fun j hj => ?_, hK.set _ ⟨rfl, by omega, by omega⟩⟩
  by_cases e : j = i
  · subst e; rw [upd_same, if_pos (by omega)]; simp [hil]
  · rw [upd_other _ _ e]
    by_cases h2 : j < i
    · rw [if_pos h2, if_pos (by omega)]
    · rw [if_neg h2, if_neg (by omega)]
set_option maxHeartbeats 8000000 in
theorem readSlice_any {t : TypeId} {rp : Option Addr} {F : Nat} {RS : List UInt8 → World → Prop} {D : Nat → Prop} (R : Rdr t rp F RS D) (h b rest : List UInt8) (l : List Nat) (k sb so sc N : Nat) (f : Nat → Int) (w : World) (hS : RS (chunks h l ++ rest) w) (hh : h.length = 10) (hl0 : l ≠ []) (hB : By w k 0 b) (hb : b.length = 16384) (hH : Hold .i32 w sb so l.length f)
    (hN : ∀ x ∈ l, x < N) (hNb : N ≤ 1073741824) (hlb : l.length ≤ 1073741824) (hD : ¬ D k) (hDs : ¬ D sb) (hks : k ≠ sb) :
    Calls Tryd.prog 18 #[.iface t (.pointer rp), bufV k, .agg #[.slice (some ⟨sb, so, none⟩) l.length sc, .slice none 0 0], .int .u64 (N : Nat)] w (RsPost RS D h rest l k sb so l.length f w) := by
  have hl : ∀ x ∈ l, x < 4294967296 := fun x hx => by have := hN x hx; omega
  have hps := psize_le l hl
  have hhl : (head h l).length = 10 := head_len l hh hl
  have hkw : k < w.heap.size := Hold.lt hB (by rw [hb]; omega)
  have hsw : sb < w.heap.size := hH.lt (by cases l; exact (hl0 rfl).elim; simp)
  have hk1 : Grew w (w.alloc (.cells #[.slice (some ⟨sb, so, none⟩) l.length sc, .slice none 0 0] 46)) := (Kept.refl _ w).alloc _
  have c0 : (w.alloc (.cells #[.slice (some ⟨sb, so, none⟩) l.length sc, .slice none 0 0] 46)).cell? ⟨w.heap.size, 0, none⟩ = some (.slice (some ⟨sb, so, none⟩) l.length sc) := by rw [World.cell?_alloc_new]; rfl
  have c1 : (w.alloc (.cells #[.slice (some ⟨sb, so, none⟩) l.length sc, .slice none 0 0] 46)).cell? ⟨w.heap.size, 1, none⟩ = some (.slice none 0 0) := by rw [World.cell?_alloc_new]; rfl
  have hbs : b = b.take 10 ++ b.drop 10 := (List.take_append_drop 10 b).symm
  have hB1 : By (w.alloc (.cells #[.slice (some ⟨sb, so, none⟩) l.length sc, .slice none 0 0] 46)) k 0 (b.take 10 ++ b.drop 10) := by rw [← hbs]; exact hB.kept hk1 fun _ _ h => h
  have hS1 := R.kept hS hk1 fun _ _ _ h => h
  have hpp := piece_parts h hl0 rest
  have HRI := readInt_any R (chunks h l ++ rest) (b.take 10) (b.drop 10) k _ hS1 hB1 (by rw [List.length_take]; omega) (by rw [List.length_drop]; omega) (by rw [hpp, List.length_append]; omega) hD
  have htk : (chunks h l ++ rest).take 10 = head h l := by rw [hpp, List.take_left' hhl]
  have hdr : (chunks h l ++ rest).drop 10 = enc (l.take (fit 10 l)) ++ (chunks (head h l) (l.drop (fit 10 l)) ++ rest) := by rw [hpp, List.drop_left' hhl]
  have hbk : True := trivial
  have hdec : (varintDec (head h l ++ b.drop 10)).1 = (psize l : Int) := dec_head h (b.drop 10) l hl
  have HHW := Lib.hid (hH.kept hk1 fun _ _ h => h)
  have HK1 := Lib.hid hk1
  have HHL := Lib.hid hhl
  have hxD : ¬ D w.heap.size := fun hx => by have := R.lt hS _ hx; omega
  have hxk : w.heap.size ≠ k := by omega
  have hxs : sb ≠ w.heap.size := Nat.ne_of_lt hsw
  have hxw : w.heap.size < (w.alloc (.cells #[.slice (some ⟨sb, so, none⟩) l.length sc, .slice none 0 0] 46)).heap.size := by rw [World.size_alloc]; omega
  unfold bufV at *
  have hkw1 : k < (w.alloc (.cells #[.slice (some ⟨sb, so, none⟩) l.length sc, .slice none 0 0] 46)).heap.size := by rw [World.size_alloc]; omega
  have hsw1 : sb < (w.alloc (.cells #[.slice (some ⟨sb, so, none⟩) l.length sc, .slice none 0 0] 46)).heap.size := by rw [World.size_alloc]; omega
  clear hS1 hB1 hk1 hB hH hS hbs
  generalize hw1 : w.alloc (.cells #[.slice (some ⟨sb, so, none⟩) l.length sc, .slice none 0 0] 46) = w1 at *
  have HW1 := Lib.hid hw1
  clear hw1
  have HP1 : Hid (∀ e w2, RnPost RS D (chunks h l ++ rest) (b.drop 10) k w1 e w2 → e = .returned (.tuple #[.int .i64 (psize l : Nat), .nilIface]) ∧ RS (enc (l.take (fit 10 l)) ++ (chunks (head h l) (l.drop (fit 10 l)) ++ rest)) w2 ∧ By w2 k 0 (head h l ++ b.drop 10) ∧ Kept (fun x y => D x ∨ In k 0 10 x y) w1 w2) := fun e w2 hp => by
    obtain ⟨h1, h2, h3, h4⟩ := hp
    rw [htk] at h1 h3
    rw [hdec] at h1
    rw [hdr] at h2
    exact ⟨h1, h2, h3, h4⟩
  have HRI' := Lib.hid HRI
  clear HRI htk hdr hdec hpp
  have HR := Lib.hid R
  have HD := Lib.hid hD
  have HDs := Lib.hid hDs
  have HN := Lib.hid hN
  have HLL := Lib.hid hl
  have HL0 := Lib.hid hl0
  have HBL := Lib.hid hb
  have HXD := Lib.hid hxD
  clear R hD hDs hN hl hl0 hb hhl hh hkw hsw hxD
  go_enter Tryd.func18, Tryd.ntmps18
  go_wp2_with fail
  rw [HW1.out]
  clear HW1
  generalize w.heap.size = xb at *
  refine HRI'.out.mono ?_
  rintro e w2 hp
  obtain ⟨he, hS2, hB2, hK2⟩ := HP1.out e w2 hp
  subst he
  clear hp HP1 HRI'
  have hnx : ∀ o, ¬ (D xb ∨ In k 0 10 xb o) := fun o hh => hh.elim HXD.out fun hh => hxk hh.1
  replace c0 := (hK2.cell xb 0 hxw (hnx 0)).trans c0
  replace c1 := (hK2.cell xb 1 hxw (hnx 1)).trans c1
  replace HHW := Lib.hid (HHW.out.kept hK2 fun j _ hh => hh.elim HDs.out fun hh => hks hh.1.symm)
  replace hxw := Nat.lt_of_lt_of_le hxw hK2.size
  replace hkw1 := Nat.lt_of_lt_of_le hkw1 hK2.size
  replace hsw1 := Nat.lt_of_lt_of_le hsw1 hK2.size
  have HKA : Hid (Kept (SR D k sb so l.length) w w2) := (HK1.out.mono fun _ _ _ h => h.elim).trans' hK2 fun x y _ hh => .inl (hh.imp id fun hh => hh.1)
  clear hnx hK2 HK1
  have hE : (enc (l.take (fit 10 l))).length = psize l - 10 := by unfold psize; omega
  have hoe : ((b.drop 10).take (psize l - 10)).length = psize l - 10 := by rw [List.length_take, List.length_drop, HBL.out]; omega
  have hB2' : By w2 k 10 ((b.drop 10).take (psize l - 10) ++ (b.drop 10).drop (psize l - 10)) := by
    rw [List.take_append_drop]
    have := hB2.right
    rwa [HHL.out, Nat.zero_add] at this
  have HRF := readFull_any HR.out (enc (l.take (fit 10 l)) ++ (chunks (head h l) (l.drop (fit 10 l)) ++ rest)) ((b.drop 10).take (psize l - 10)) k 10 16374 w2 hS2 hB2'.left (by rw [List.length_append, hE, hoe]; omega) (by omega) (by omega) HD.out
  have HP2 : Hid (∀ e w3, RfPost RS D (enc (l.take (fit 10 l)) ++ (chunks (head h l) (l.drop (fit 10 l)) ++ rest)) ((b.drop 10).take (psize l - 10)) k 10 w2 e w3 → e = .returned (.tuple #[.int .i64 ((psize l - 10 : Nat) : Nat), .nilIface]) ∧ RS (chunks (head h l) (l.drop (fit 10 l)) ++ rest) w3 ∧ By w3 k 0 (head h l ++ enc (l.take (fit 10 l)) ++ (b.drop 10).drop (psize l - 10)) ∧ Kept (fun x y => D x ∨ In k 10 (psize l - 10) x y) w2 w3) := fun e w3 hp => by
    obtain ⟨h1, h2, h3, h4⟩ := hp
    rw [hoe] at h1 h2 h3 h4
    rw [List.drop_left' hE] at h2
    rw [List.take_left' hE] at h3
    refine ⟨h1, h2, ?_, h4⟩
    have ha : By w3 k 0 (head h l) := hB2.left.kept h4 fun j hj hh => hh.elim HD.out fun hh => by
      rw [HHL.out] at hj
      have := hh.2.1; omega
    have hc := hB2'.right
    rw [hoe] at hc
    have hd := hc.kept h4 fun j hj hh => hh.elim HD.out fun hh => by have := hh.2.2; omega
    exact By.join (By.join ha (by rw [HHL.out]; exact h3)) (by rw [List.length_append, HHL.out, hE, Nat.zero_add]; exact hd)
  rw [hoe] at HRF
  replace HRF := Lib.hid HRF
  have HPS : Hid (psize l = 10 + (enc (l.take (fit 10 l))).length) := rfl
  have HLX : Hid ((head h l ++ enc (l.take (fit 10 l)) ++ (b.drop 10).drop (psize l - 10)).length = 16384) := by
    show _ = _
    rw [List.length_append, List.length_append, HHL.out, hE, List.length_drop, List.length_drop, HBL.out]; omega
  clear hS2 hB2 hB2' hE hoe
  generalize hP : psize l = P at *
  have HPP := Lib.hid hP
  clear hP
  have y1 : (0 : Int) ≤ (P : Int) := by omega
  have y2 : (10 : Int) ≤ (P : Int) := by omega
  have y3 : (P : Int) ≤ 16384 := by omega
  have y4 : decide ((P : Int) < 0) = false := by simp
  go_wp2_with fail
  refine HRF.out.mono ?_
  rintro e w3 hp
  obtain ⟨he, hS3, hB3, hK3⟩ := HP2.out e w3 hp
  subst he
  clear hp HP2 HRF y4
  have hnx : ∀ o, ¬ (D xb ∨ In k 10 (P - 10) xb o) := fun o hh => hh.elim HXD.out fun hh => hxk hh.1
  replace c0 := (hK3.cell xb 0 hxw (hnx 0)).trans c0
  replace c1 := (hK3.cell xb 1 hxw (hnx 1)).trans c1
  replace HHW := Lib.hid (HHW.out.kept hK3 fun j _ hh => hh.elim HDs.out fun hh => hks hh.1.symm)
  replace hxw := Nat.lt_of_lt_of_le hxw hK3.size
  replace HKA : Hid (Kept (SR D k sb so l.length) w w3) := HKA.out.trans' hK3 fun x y _ hh => .inl (hh.imp id fun hh => hh.1)
  have HS3 := Lib.hid hS3
  have HB3 := Lib.hid hB3
  clear hnx hK3 hS3 hB3 hkw1 hsw1
  have HLE := Lib.hid (ints_len xb 0 l.length sc (some ⟨sb, so, none⟩) w3 hlb c0 c1)
  go_wp2_with fail
  refine HLE.out.mono ?_
  rintro e w4 ⟨rfl, q, rfl⟩
  replace c0 : (w3.drewN q).cell? ⟨xb, 0, none⟩ = some (.slice (some ⟨sb, so, none⟩) l.length sc) := c0
  replace HHW : Hid (Hold .i32 (w3.drewN q) sb so l.length f) := HHW
  replace HKA := Lib.hid (HKA.out.drewN q)
  replace HB3 : Hid (By (w3.drewN q) k 0 (head h l ++ enc (l.take (fit 10 l)) ++ (b.drop 10).drop (P - 10))) := HB3
  replace HS3 : Hid (RS (chunks (head h l) (l.drop (fit 10 l)) ++ rest) (w3.drewN q)) := HR.out.kept HS3.out (Kept.refl (fun _ _ => False) _ |>.drewN q) fun _ _ _ h => h
  replace hxw : xb < (w3.drewN q).heap.size := hxw
  clear HLE c1
  generalize w3.drewN q = w4 at *
  go_wp2_with fail
  have hfl := fit_le l 10
  go_loopw [8, 9, 13] (fun nv ev pv wr => RsRel l sb so l.length f w4 nv ev pv wr) (fun nv _ _ _ => l.length - (RowKit.intOf nv).toNat)
  case atStart => exact ⟨0, Nat.zero_le _, rfl, rfl, rfl, HHW.out.congr fun j _ => if_neg (by omega), Kept.refl _ _⟩
  case round =>
    clear HHW
    obtain ⟨i, hi, rfl, rfl, rfl, HH, HK⟩ := hrel
    by_cases hlt : i < fit 10 l
    · have hil : i < l.length := by omega
      have hel := enc_lt hlt hfl
      have hps2 := HPS.out
      have hen := enc_next hil
      have hdec := dec_at l HLL.out hlt hfl (head h l) ((b.drop 10).drop (P - 10)) HHL.out
      have hN := HN.out l[i] (List.getElem_mem hil)
      have hBr := (HB3.out.kept HK.out fun j _ hh => hks hh.1)
      have HUV := Tryd.binary_Uvarint k (10 + (enc (l.take i)).length) (16384 - (10 + (enc (l.take i)).length)) (16384 - (10 + (enc (l.take i)).length)) ((head h l ++ enc (l.take (fit 10 l)) ++ (b.drop 10).drop (P - 10)).drop (10 + (enc (l.take i)).length)) wr (by rw [List.length_drop, HLX.out]) (fun j hj => by
        have h1 := (hBr.br.drop (10 + (enc (l.take i)).length) (by rw [HLX.out]; omega)).get j hj
        exact h1)
      rw [hdec] at HUV
      replace HUV := Lib.hid HUV
      have HH' := HH.out i hil
      have d0 : wr.cell? ⟨xb, 0, none⟩ = some (.slice (some ⟨sb, so, none⟩) l.length sc) := (HK.out.cell xb 0 hxw fun hh => hxs hh.1.symm).trans c0
      have HSET := Lib.hid (ints_set xb 0 l.length sc sb so i l[i] _ wr hlb hil (by omega) d0 HH'.1 HH'.2)
      have HST := Lib.hid (rs_step hil hil HH.out HK.out)
      have hul := uv_le (HLL.out l[i] (List.getElem_mem hil))
      have HNX : Hid (((10 + (enc (l.take i)).length : Nat) : Int) + ((uvarint l[i]).length : Int) = ((10 + (enc (l.take (i + 1))).length : Nat) : Int)) := by
        show _ = _
        omega
      have hpb : 10 + (enc (l.take i)).length < P := by omega
      clear hdec hBr HH' HH HK hps2 hen hel
      generalize 10 + (enc (l.take i)).length = p at *
      generalize l[i] = x at *
      generalize (uvarint x).length = ul at *
      have z1 : (p : Int) < (P : Int) := by omega
      have z2 : (p : Int) ≤ 16384 := by omega
      have z3 : ¬ (16384 : Nat) = p := by omega
      have z4 : ¬ (l.length : Int) ≤ (i : Int) := by omega
      have z5 : ¬ (N : Int) ≤ (x : Int) := by omega
      have z6 : IntKind.i64.wrap (x : Int) = (x : Int) := by rw [IntKind.wrap_i64]; omega
      have z7 : decide ((l.length : Int) ≤ (i : Int)) = false := by simp; omega
      have z8 : decide ((N : Int) ≤ (x : Int)) = false := by simp; omega
      go_wp2_with fail
      refine HUV.out.mono ?_
      rintro e w5 ⟨rfl, rfl⟩
      clear HUV
      go_wp2_with fail
      refine HSET.out.mono ?_
      rintro e w6 ⟨rfl, rfl⟩
      clear HSET d0
      generalize w5.setCell ⟨sb, so + i, none⟩ (.int .i32 (x : Nat)) = w6 at *
      go_wp2
      go_roundw
      case rel => exact ⟨i + 1, by omega, by go_num, rfl, by rw [HNX.out], HST.out.1, HST.out.2⟩
      case measure => simp [RowKit.intOf]; omega
    · obtain rfl : fit 10 l = i := by omega
      have HE : Hid (RsPost RS D h rest l k sb so l.length f w (.returned (.tuple #[.int .i64 (fit 10 l : Nat), .nilIface])) wr) := by
        refine ⟨rfl, HR.out.kept HS3.out HK.out fun x y hx hh => HDs.out (by rw [← hh.1]; exact hx), ⟨_, HB3.out.kept HK.out fun j _ hh => hks hh.1, HLX.out⟩, HH.out, HKA.out.trans' HK.out fun x y _ hh => .inr hh⟩
      have hps2 := HPS.out
      have z1 : ¬ ((10 + (enc (l.take (fit 10 l))).length : Nat) : Int) < (P : Int) := by omega
      clear HH HK HKA HS3 HB3 hps2 hlt
      generalize 10 + (enc (l.take (fit 10 l))).length = p at *
      generalize fit 10 l = K at *
      go_wp2
      go_ret2
      exact HE.out
end Go.Proofs.YtoebcbmkkhbldaaDoor
