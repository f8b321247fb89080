/- FnStream. -/
import Derived.Test.YtoebcbmkkhbldaaGreatDoorQStr
import Derived.Test.YtoebcbmkkhbldaaGreatDoorQLst
import Derived.Test.YtoebcbmkkhbldaaGreatDoorQSta
set_option linter.unusedVariables false
namespace Go.Proofs.YtoebcbmkkhbldaaGreatDoor
open Go.RowKit Go.Mem Sais Go.Lib Go.Wire
set_option maxRecDepth 100000

def FsRel (m : Nat) (w : World) (iv : Value) (wr : World) : Prop := ∃ k : Nat, k ≤ m ∧ iv = .int .i64 (k : Nat) ∧ Hid (Grew w wr)
theorem map_get {α : Type} (T : Nat → α) (m k : Nat) (h : k < ((List.range m).map T).length) : ((List.range m).map T)[k] = T k := by simp
set_option maxHeartbeats 8000000 in
theorem fnStream_main (ts : List ByteArray) (js : List Nat) (m : Nat) (s : ByteArray) (tv jv : Value) (w : World) (ht : ∀ t ∈ ts, t.size ≤ 1048576) (hl : ts.length ≤ 1048576) (hs : s.size ≤ 1048576) (hT : TS ts w tv) (hJ : IL (ints js) w jv) (hjl : js.length = ts.length) (hj : ∀ j ∈ js, j < m) (hm : m ≤ 1000) (hf : fitsB ts.length (ints js) (m : Nat) = true) (hmax : MaxIs w) :
    Calls Tryz.prog 3 #[tv, jv, .int .i64 (m : Nat), .string s] w (GB true w) := by
  have HC1 := fits_any ts.length (ints js) (m : Nat) jv w hJ (by rw [ints_length]; omega) (by omega)
  rw [hf] at HC1
  replace HC1 := Lib.hid HC1
  have HC2 := Lib.hid (stream_any ts js m s tv jv w ht hl (by omega) hT hJ hjl hj (by omega) hmax)
  have HA := Lib.hid (fun u (hu : Grew w u) => awake_any u (hmax.grew hu))
  have HLA := Lib.hid (fun k u (hk : k ≤ 1073741824) (hu : Grew w u) => last_any ts js k tv jv u (hT.grew hu) (hJ.grew hu) hjl (by omega) hk)
  have HTZ : Hid (∀ j, (lastT ts js ts.length j).size ≤ 1048576) := fun j => lastT_size ht js _ j
  obtain ⟨ta, tc, rfl⟩ := hT.shape
  obtain ⟨ja, jc, rfl⟩ := hJ.shape
  rw [ints_length, hjl] at HC1 HC2 HLA ⊢
  clear hT hJ hj hmax hf ht hjl
  generalize hTd : lastT ts js ts.length = T at *
  have HTD := Lib.hid hTd
  clear hTd
  go_enter Tryz.func3, Tryz.ntmps3
  go_wp2_with fail
  refine HC1.out.mono ?_
  rintro e w1 ⟨rfl, rfl⟩
  clear HC1
  have z1 : ¬ (1000 : Int) < (m : Int) := by omega
  have z2 : decide ((1000 : Int) < (m : Int)) = false := by simp; omega
  go_wp2_with fail
  refine HC2.out.mono ?_
  rintro e w2 ⟨vs, v1, v2, rfl, i1, hvl, hL, i2, k2⟩
  rw [HTD.out] at hL i2
  clear HTD
  obtain ⟨a1, c1, rfl⟩ := i1.shape
  obtain ⟨a2, c2, rfl⟩ := i2.shape
  rw [List.length_map, List.length_range] at i2 ⊢
  rw [hvl] at i1 ⊢
  have HI1 := Lib.hid i1; have HI2 := Lib.hid i2; have HL := Lib.hid hL; have HVL := Lib.hid hvl
  have HK2 := Lib.hid k2
  have HA2 := Lib.hid (HA.out w2 k2)
  clear i1 i2 hL hvl k2 HC2 HA
  go_wp2_with fail
  refine HA2.out.mono ?_
  rintro e w3 ⟨rfl, k3⟩
  have HK3 := Lib.hid k3
  clear k3 HA2
  go_wp2_with fail
  go_loopw [53, 12, 13] (fun iv _ _ wr => FsRel m w3 iv wr) (fun iv _ _ _ => m - (RowKit.intOf iv).toNat)
  case atStart => exact ⟨0, Nat.zero_le _, rfl, Kept.refl _ _⟩
  case round =>
    obtain ⟨k, hk, rfl, HW⟩ := hrel
    by_cases hlt : k < m
    · have y1 : (k : Int) < (m : Int) := by omega
      obtain ⟨b1, o1, cc, e, _, hcell1⟩ := HI1.out.cells (by rw [HVL.out]; omega)
      rw [HVL.out] at e
      injection e with ea en ec
      subst ea ec
      obtain ⟨b2, o2, cc, e, _, hcell2⟩ := HI2.out.cells (by simp; omega)
      rw [List.length_map, List.length_range] at e
      injection e with ea en ec
      subst ea ec
      obtain ⟨l, tl, pl⟩ := HL.out k (by rw [HVL.out]; exact hlt)
      have hck1 := hcell1 k (by rw [HVL.out]; exact hlt)
      have hck2 := hcell2 k (by simp; exact hlt)
      rw [map_get] at hck2
      have htl := tl.1
      obtain ⟨x, hx⟩ : ∃ x, vs[k]'(by rw [HVL.out]; exact hlt) = x := ⟨_, rfl⟩
      rw [hx] at hck1 htl
      have HGr := Lib.hid (HK3.out.trans HW.out)
      have cs : wr.cell? ⟨b2, o2 + k, none⟩ = some (.string (T k)) := (HGr.out.cell _ _ (World.block_lt_of_cell? w2 _ hck2) fun h => h).trans hck2
      have HX := Lib.hid (fun u (hu : Grew wr u) => (⟨((HGr.out.trans hu).cell _ _ (World.block_lt_of_cell? w2 _ hck2) fun h => h).trans hck2, ((HGr.out.trans hu).cell _ _ (World.block_lt_of_cell? w2 _ hck1) fun h => h).trans hck1⟩ : u.cell? ⟨b2, o2 + k, none⟩ = some (.string (T k)) ∧ u.cell? ⟨b1, o1 + k, none⟩ = some x))
      have cx : wr.cell? ⟨b1, o1 + k, none⟩ = some x := (HX.out wr (Kept.refl _ _)).2
      have htk := HTZ.out k
      have HLS := Lib.hid (HLA.out k wr (by omega) (HK2.out.trans HGr.out))
      have HPL := Lib.hid (places_any (T k) s wr.drew (by omega) (by omega))
      have hsr : srt l = ints (places (T k) s) := lookup_srt pl
      have HSM := Lib.hid (fun u v3 (hu : Grew wr u) (i3 : IL (ints (places (T k) s)) u v3) => by
        have h1 := same_il ((htl.grew HGr.out).grew hu) i3 (by rw [lookup_len pl]; exact places_big (by omega)) (by rw [ints_length]; exact places_big (by omega))
        rw [decide_eq_true hsr] at h1
        exact h1)
      clear hcell1 hcell2 hck1 hck2 tl pl htl hx hsr HI1 HI2 HL HVL HTZ HLA htk
      generalize T k = tk at *
      go_wp2_with fail
      refine HLS.out.mono ?_
      rintro e w4 ⟨rfl, rfl⟩
      clear HLS
      go_wp2_with fail
      go_region_held3 (fun w' => w'.cell? ⟨b2, o2 + k, none⟩ = some (.string tk) ∧ w'.cell? ⟨b1, o1 + k, none⟩ = some x)
        (first | (exact HX.out _ HG5.out) | (exact HX.out _ HG4.out) | go_keep)
        (first
          | (go_at_call 15; (with_reducible refine HPL.out.mono ?_); rintro e w4 ⟨v4, rfl, i4, k4⟩; have HG4 := Lib.hid ((Kept.refl _ wr : Grew wr wr).drew.trans k4); have HI4 := Lib.hid i4; clear i4 k4)
          | (go_at_call 14; (with_reducible refine (HSM.out _ _ HG4.out HI4.out).mono ?_); rintro e w5 ⟨rfl, k5⟩; have HG5 := Lib.hid (HG4.out.trans k5); clear k5))
      go_wp2
      go_roundw
      case rel => exact ⟨k + 1, by omega, by go_num, HW.out.trans HG5.out⟩
      case measure => simp [RowKit.intOf]; omega
    · obtain rfl : k = m := by omega
      have HF := Lib.hid ((HK2.out.trans HK3.out).trans HW.out)
      clear HI1 HI2 HL HVL HTZ HLA HK2 HK3 HW
      go_wp2
      go_ret
      exact ⟨rfl, HF.out⟩
set_option maxHeartbeats 8000000 in
theorem fnStream_any (ts : List ByteArray) (l : List Int) (mi : Int) (s : ByteArray) (tv jv : Value) (w : World) (ht : ∀ t ∈ ts, t.size ≤ 1048576) (hl : ts.length ≤ 1048576) (hll : l.length ≤ 1048576) (hs : s.size ≤ 1048576) (hT : TS ts w tv) (hJ : IL l w jv) (hmax : MaxIs w) :
    Calls Tryz.prog 3 #[tv, jv, .int .i64 mi, .string s] w (GB true w) := by
  by_cases hf : fitsB ts.length l mi = true
  · by_cases hm : mi ≤ 1000
    · obtain ⟨h1, h2, js, rfl, h3, h4⟩ := fits_ints hf
      obtain ⟨m, rfl⟩ : ∃ m : Nat, mi = (m : Int) := ⟨mi.toNat, by omega⟩
      exact fnStream_main ts js m s tv jv w ht hl hs hT hJ h3 (fun j hj => by have := h4 j hj; omega) (by omega) hf hmax
    · have HC1 := fits_any ts.length l mi jv w hJ (by omega) (by omega)
      rw [hf] at HC1
      replace HC1 := Lib.hid HC1
      have HA := Lib.hid (awake_any w hmax)
      obtain ⟨ta, tc, rfl⟩ := hT.shape
      obtain ⟨ja, jc, rfl⟩ := hJ.shape
      clear hT hJ hmax hf ht
      go_enter Tryz.func3, Tryz.ntmps3
      go_wp2_with fail
      refine HC1.out.mono ?_
      rintro e w1 ⟨rfl, rfl⟩
      clear HC1
      have z1 : (1000 : Int) < mi := by omega
      have z2 : decide ((1000 : Int) < mi) = true := by simp; omega
      go_wp2_with fail
      refine HA.out.mono ?_
      rintro e w2 ⟨rfl, k2⟩
      clear HA
      go_wp2
      go_ret
      exact ⟨rfl, k2⟩
  · have hf : fitsB ts.length l mi = false := by simpa using hf
    have HC1 := fits_any ts.length l mi jv w hJ (by omega) (by omega)
    rw [hf] at HC1
    replace HC1 := Lib.hid HC1
    have HA := Lib.hid (awake_any w hmax)
    obtain ⟨ta, tc, rfl⟩ := hT.shape
    obtain ⟨ja, jc, rfl⟩ := hJ.shape
    clear hT hJ hmax hf ht
    go_enter Tryz.func3, Tryz.ntmps3
    go_wp2_with fail
    refine HC1.out.mono ?_
    rintro e w1 ⟨rfl, rfl⟩
    clear HC1
    go_wp2_with fail
    refine HA.out.mono ?_
    rintro e w2 ⟨rfl, k2⟩
    clear HA
    go_wp2
    go_ret
    exact ⟨rfl, k2⟩
end Go.Proofs.YtoebcbmkkhbldaaGreatDoor
