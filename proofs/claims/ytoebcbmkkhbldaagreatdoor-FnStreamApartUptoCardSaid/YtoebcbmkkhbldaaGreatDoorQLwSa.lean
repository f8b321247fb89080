/- FnStreamApart, FnStreamOver. -/
import Derived.Test.YtoebcbmkkhbldaaGreatDoorQStr
import Derived.Test.YtoebcbmkkhbldaaGreatDoorQLst
import Derived.Test.YtoebcbmkkhbldaaGreatDoorQSta
set_option linter.unusedVariables false
namespace Go.Proofs.YtoebcbmkkhbldaaGreatDoor
open Go.RowKit Go.Mem Sais Go.Lib Go.Wire
set_option maxRecDepth 100000

def FsaRel (m : Nat) (w : World) (iv : Value) (wr : World) : Prop := ∃ k : Nat, k ≤ m ∧ iv = .int .i64 (k : Nat) ∧ Hid (Grew w wr)
theorem lastT_range (ts : List ByteArray) : ∀ (i : Nat), i ≤ ts.length → ∀ j, j < i → lastT ts (List.range ts.length) i j = ts.getD j ⟨#[]⟩
  | 0, _, j, hj => (Nat.not_lt_zero _ hj).elim
  | i + 1, hi, j, hj => by
    have e : (List.range ts.length).getD i 0 = i := by simp [show i < ts.length by omega]
    unfold lastT
    rw [e]
    by_cases h : j = i
    · subst h; rw [fset_same]
    · rw [fset_other _ _ h]; exact lastT_range ts i (by omega) j (by omega)
theorem lastT_all (ts : List ByteArray) : (List.range ts.length).map (lastT ts (List.range ts.length) ts.length) = ts := by
  apply List.ext_getElem
  · simp
  · intro j h1 h2
    rw [List.getElem_map, List.getElem_range, lastT_range ts _ (Nat.le_refl _) j h2]
    simp [h2]
theorem lastT_zero (ts : List ByteArray) (n : Nat) : lastT ts (List.replicate n 0) ts.length 0 = ts.getD (ts.length - 1) ⟨#[]⟩ := by
  cases h : ts.length with
  | zero => rw [List.length_eq_zero_iff.1 h]; rfl
  | succ i =>
    have e : (List.replicate n 0).getD i 0 = 0 := by
      by_cases h : i < n <;> simp [h]
    unfold lastT
    rw [e, fset_same]
    rfl
theorem lastT_none (ts : List ByteArray) (n j : Nat) (hj : 0 < j) : ∀ (i : Nat), lastT ts (List.replicate n 0) i j = ⟨#[]⟩
  | 0 => rfl
  | i + 1 => by
    have e : (List.replicate n 0).getD i 0 = 0 := by
      by_cases h : i < n <;> simp [h]
    unfold lastT
    rw [e, fset_other _ _ (by omega)]
    exact lastT_none ts n j hj i
set_option maxHeartbeats 8000000 in
theorem fnStreamApart_any (ts : List ByteArray) (s : ByteArray) (tv : Value) (w : World) (ht : ∀ t ∈ ts, t.size ≤ 1048576) (hl : ts.length ≤ 1048576) (hs : s.size ≤ 1048576) (hT : TS ts w tv) (hmax : MaxIs w) :
    Calls Tryz.prog 4 #[tv, .string s] w (GB true w) := by
  have HC1 := Lib.hid (upTo_any ts.length w (by omega))
  have HC2 := Lib.hid (fun u jv (hu : Grew w u) (hJ : IL (ints (List.range ts.length)) u jv) => stream_any ts (List.range ts.length) ts.length s tv jv u ht hl (by omega) (hT.grew hu) hJ (by simp) (fun j hj => by simpa using hj) hl (hmax.grew hu))
  have HA := Lib.hid (fun u (hu : Grew w u) => awake_any u (hmax.grew hu))
  have HLK := Lib.hid (fun (t : ByteArray) u (h : t ∈ ts) (hu : Grew w u) => lookup_any t s u (by have := ht t h; omega) (by omega) (hmax.grew hu))
  have HRI := Lib.hid (fun (t : ByteArray) u l1 v1 (h : t ∈ ts) (i1 : IL l1 u v1) (hp : l1.Perm (ints (places t s))) => rising_il (by rw [lookup_len hp]; exact places_big (by have := ht t h; omega)) i1)
  have HT := Lib.hid hT
  have HTZ := Lib.hid ht
  have HM := Lib.hid hmax
  obtain ⟨ta, tc, rfl⟩ := hT.shape
  clear hT hmax ht
  go_enter Tryz.func4, Tryz.ntmps4
  go_wp2_with fail
  refine HC1.out.mono ?_
  rintro e w1 ⟨jv, rfl, i1, k1⟩
  have HS := Lib.hid (HC2.out w1 jv k1 i1)
  have HK1 := Lib.hid k1
  obtain ⟨ja, jc, rfl⟩ := i1.shape
  rw [ints_length, List.length_range] at HS ⊢
  clear i1 k1 HC1 HC2
  go_wp2_with fail
  refine HS.out.mono ?_
  rintro e w2 ⟨vs, v1, v2, rfl, i1, hvl, hL, i2, k2⟩
  rw [lastT_all] at i2
  have HE2 := Lib.hid (equal_str ts ts v2 _ w2 i2 (HT.out.grew (HK1.out.trans k2)) (by omega) rfl)
  obtain ⟨a1, c1, rfl⟩ := i1.shape
  obtain ⟨a2, c2, rfl⟩ := i2.shape
  rw [hvl] at i1 ⊢
  have HI1 := Lib.hid i1; have HL := Lib.hid hL; have HVL := Lib.hid hvl
  have HK2 := Lib.hid (HK1.out.trans k2)
  clear i1 i2 hL hvl k2 HS HK1
  go_wp2_with fail
  refine HE2.out.mono ?_
  rintro e w3 ⟨rfl, q3, rfl⟩
  clear HE2
  have HK3 : Hid (Grew w2 (w2.drewN q3)) := (Kept.refl _ w2).drewN q3
  generalize w2.drewN q3 = w3 at *
  go_wp2_with fail
  go_loopw [39, 8, 9] (fun iv _ _ wr => FsaRel ts.length w3 iv wr) (fun iv _ _ _ => ts.length - (RowKit.intOf iv).toNat)
  case atStart => exact ⟨0, Nat.zero_le _, rfl, Kept.refl _ _⟩
  case round =>
    obtain ⟨k, hk, rfl, HW⟩ := hrel
    by_cases hlt : k < ts.length
    · have y1 : (k : Int) < (ts.length : Int) := by omega
      obtain ⟨b, o, c, e, _, hcell⟩ := HT.out.cells (by omega)
      injection e with ea en ec
      subst ea ec
      obtain ⟨b1, o1, cc, e, _, hcell1⟩ := HI1.out.cells (by rw [HVL.out]; omega)
      rw [HVL.out] at e
      injection e with ea en ec
      subst ea ec
      obtain ⟨l, tl, pl⟩ := HL.out k (by rw [HVL.out]; exact hlt)
      rw [lastT_range ts _ (Nat.le_refl _) k hlt, show ts.getD k ⟨#[]⟩ = ts[k] by simp [hlt]] at pl
      have hck := hcell k hlt
      have hck1 := hcell1 k (by rw [HVL.out]; exact hlt)
      have htl := tl.1
      obtain ⟨x, hx⟩ : ∃ x, vs[k]'(by rw [HVL.out]; exact hlt) = x := ⟨_, rfl⟩
      rw [hx] at hck1 htl
      have HGr := Lib.hid (HK3.out.trans HW.out)
      have HGw := Lib.hid (HK2.out.trans HGr.out)
      have cs : wr.cell? ⟨b, o + k, none⟩ = some (.string ts[k]) := (HGw.out.cell _ _ (World.block_lt_of_cell? w _ hck) fun h => h).trans hck
      have HX := Lib.hid (fun u (hu : Grew wr u) => ((HGr.out.trans hu).cell _ _ (World.block_lt_of_cell? w2 _ hck1) fun h => h).trans hck1)
      have cx : wr.cell? ⟨b1, o1 + k, none⟩ = some x := HX.out wr (Kept.refl _ _)
      have hmem : ts[k] ∈ ts := List.getElem_mem hlt
      have htk := HTZ.out ts[k] hmem
      have HLU := Lib.hid (HLK.out ts[k] wr.drew hmem HGw.out.drew)
      have HRU := Lib.hid (fun u l1 v1 => HRI.out ts[k] u l1 v1 hmem)
      have HSM := Lib.hid (fun u v3 l1 (hu : Grew wr u) (hp : l1.Perm (ints (places ts[k] s))) (i3 : IL (srt l1) u v3) => by
        have h1 := same_il ((htl.grew HGr.out).grew hu) i3 (by rw [lookup_len pl]; exact places_big (by omega)) (by rw [srt_len, lookup_len hp]; exact places_big (by omega))
        rw [decide_eq_true (srt_of_perm (pl.trans hp.symm))] at h1
        exact h1)
      clear hcell hcell1 hck hck1 tl pl htl hx HI1 HL HVL HTZ HT HLK HRI htk hmem
      generalize ts[k] = tk at *
      go_wp2_with fail
      go_region_held3 (fun w' => w'.cell? ⟨b1, o1 + k, none⟩ = some x)
        (first | (exact HX.out _ HG5.out) | (exact HX.out _ HG4.out) | (exact HX.out _ HG6.out) | go_keep)
        (first
          | (go_at_call 19; (with_reducible refine HLU.out.mono ?_); rintro e w4 ⟨l4, v4, rfl, i4, p4, k4⟩; have HG4 := Lib.hid ((Kept.refl _ wr : Grew wr wr).drew.trans k4); have HI4 := Lib.hid i4; have HP4 := Lib.hid p4; clear i4 p4 k4)
          | (go_at_call 18; (with_reducible refine (HRU.out _ _ _ HI4.out HP4.out).mono ?_); rintro e w5 ⟨v5, rfl, i5, k5⟩; have HG5 := Lib.hid (HG4.out.trans k5); have HI5 := Lib.hid i5; clear i5 k5)
          | (go_at_call 14; (with_reducible refine (HSM.out _ _ _ HG5.out HP4.out HI5.out).mono ?_); rintro e w6 ⟨rfl, k6⟩; have HG6 := Lib.hid (HG5.out.trans k6); clear k6))
      go_wp2
      go_roundw
      case rel => exact ⟨k + 1, by omega, by go_num, HW.out.trans HG6.out⟩
      case measure => simp [RowKit.intOf]; omega
    · obtain rfl : k = ts.length := by omega
      have HF := Lib.hid ((HK2.out.trans HK3.out).trans HW.out)
      have HAA := Lib.hid (HA.out wr HF.out)
      clear HI1 HL HVL HTZ HT HLK HRI HK2 HK3 HW HA
      go_wp2_with fail
      refine HAA.out.mono ?_
      rintro e w4 ⟨rfl, k4⟩
      go_wp2
      go_ret
      exact ⟨rfl, HF.out.trans k4⟩
end Go.Proofs.YtoebcbmkkhbldaaGreatDoor
