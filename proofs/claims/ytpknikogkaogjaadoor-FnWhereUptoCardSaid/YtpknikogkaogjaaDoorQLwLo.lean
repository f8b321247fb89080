/- FnLookups. -/
import Derived.Test.YtpknikogkaogjaaDoorQSha
set_option linter.unusedVariables false
namespace Go.Proofs.YtpknikogkaogjaaDoor
open Go.RowKit Go.Mem Sais
set_option maxRecDepth 100000

def LoRel (n : Nat) (w : World) (iv : Value) (wr : World) : Prop := ∃ k : Nat, k ≤ n ∧ iv = .int .i64 k ∧ Hid (Grew w wr)
set_option maxHeartbeats 8000000 in
theorem fnLookups_any (d : ByteArray) (ts : List ByteArray) (lv : Value) (w : World) (hd : d.size ≤ 1073741824) (ht : ∀ t ∈ ts, t.size ≤ 1073741824) (hl : ts.length ≤ 1073741824) (h : TS ts w lv) (hmax : MaxIs w) :
    Calls Tryd.prog 3 #[.string d, lv] w (GB true w) := by
  have HC1 := Lib.hid (lookups_any d ts lv w hd ht hl h hmax)
  have HC3 := Lib.hid (fun u (hu : Grew w u) => awake_any u (hmax.grew hu))
  have HI := Lib.hid h
  have HT := Lib.hid ht
  obtain ⟨a0, c0, rfl⟩ := h.shape
  clear h ht hmax
  go_enter Tryd.func3, Tryd.ntmps3
  go_wp2_with fail
  refine HC1.out.mono ?_
  rintro e w1 ⟨vs, v, rfl, hv, hvl, hll, k1⟩
  obtain ⟨a1, c1, rfl⟩ := hv.shape
  rw [hvl]
  rw [hvl] at hv
  have HV := Lib.hid hv; have HLL := Lib.hid hll; have HVL := Lib.hid hvl
  have HK1 := Lib.hid k1
  have HA := Lib.hid (HC3.out w1 k1)
  clear HC1 HC3 hv hvl hll k1
  go_wp2_with fail
  refine HA.out.mono ?_
  rintro e w2 ⟨rfl, k2⟩
  have HK2 := Lib.hid (HK1.out.trans k2)
  have HG2 := Lib.hid k2
  clear HA k2
  go_wp2_with fail
  go_loopw [22, 6, 7] (fun iv _ _ wr => LoRel ts.length w2 iv wr) (fun iv _ _ _ => ts.length - (intOf iv).toNat)
  case atStart => exact ⟨0, by omega, rfl, Kept.refl _ _⟩
  case round =>
    obtain ⟨k, hk, rfl, HW⟩ := hrel
    by_cases hlt : k < ts.length
    · obtain ⟨b, o, c, e, _, hcell⟩ := HI.out.cells (by omega)
      injection e with ea en ec
      subst ea ec
      obtain ⟨b1, o1, cc, e, _, hcell1⟩ := HV.out.cells (by rw [HVL.out]; omega)
      rw [HVL.out] at e
      injection e with ea en ec
      subst ea ec
      obtain ⟨l, tl, pl⟩ := HLL.out k (by rw [HVL.out]; exact hlt) hlt
      have hck := hcell k hlt
      have hck1 := hcell1 k (by rw [HVL.out]; exact hlt)
      have htl := tl.1
      obtain ⟨x, hx⟩ : ∃ x, vs[k]'(by rw [HVL.out]; exact hlt) = x := ⟨_, rfl⟩
      rw [hx] at hck1 htl
      have HGr := Lib.hid (HG2.out.trans HW.out)
      have cs : wr.cell? ⟨b, o + k, none⟩ = some (.string ts[k]) := ((HK1.out.trans HGr.out).cell _ _ (World.block_lt_of_cell? w _ hck) fun h => h).trans hck
      have HX := Lib.hid (fun u (hu : Grew wr u) => ((HGr.out.trans hu).cell _ _ (World.block_lt_of_cell? w1 _ hck1) fun h => h).trans hck1)
      have cx : wr.cell? ⟨b1, o1 + k, none⟩ = some x := HX.out wr (Kept.refl _ _)
      have y1 : (k : Int) < (ts.length : Int) := by omega
      have htk := HT.out ts[k] (List.getElem_mem hlt)
      have HPL := Lib.hid (places_any d ts[k] wr.drew hd htk)
      have hsr : srt l = ints (places d ts[k]) := lookup_srt pl
      have HSM := Lib.hid (fun u v3 (hu : Grew wr u) (i3 : IL (ints (places d ts[k])) u v3) => by
        have h1 := same_il ((htl.grew HGr.out).grew hu) i3 (by rw [lookup_len pl]; exact places_big hd) (by rw [ints_length]; exact places_big hd)
        rw [decide_eq_true hsr] at h1
        exact h1)
      clear hcell hcell1 hck hck1 tl pl htl hx hsr HI HV HLL HVL HT
      generalize ts[k] = tk at *
      go_wp2_with fail
      go_region_held3 (fun w' => w'.cell? ⟨b1, o1 + k, none⟩ = some x)
        (first | (exact HX.out _ HG5.out) | (exact HX.out _ HG4.out) | go_keep)
        (first
          | (go_at_call 14; (with_reducible refine HPL.out.mono ?_); rintro e w4 ⟨v4, rfl, i4, k4⟩; have HG4 := Lib.hid ((Kept.refl _ wr : Grew wr wr).drew.trans k4); have HI4 := Lib.hid i4; clear i4 k4)
          | (go_at_call 13; (with_reducible refine (HSM.out _ _ HG4.out HI4.out).mono ?_); rintro e w5 ⟨rfl, k5⟩; have HG5 := Lib.hid (HG4.out.trans k5); clear k5))
      go_wp2
      go_roundw
      case rel => exact ⟨k + 1, by omega, by go_num, HW.out.trans HG5.out⟩
      case measure => simp [intOf]; omega
    · obtain rfl : k = ts.length := by omega
      have HF := Lib.hid (HK2.out.trans HW.out)
      clear HI HV HLL HVL HT HK1 HK2 HG2 HW
      go_wp2
      go_ret
      exact ⟨rfl, HF.out⟩
end Go.Proofs.YtpknikogkaogjaaDoor
