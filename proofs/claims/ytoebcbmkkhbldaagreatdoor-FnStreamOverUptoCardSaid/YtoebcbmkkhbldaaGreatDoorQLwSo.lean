/- FnStreamOver. -/
import Derived.Test.YtoebcbmkkhbldaaGreatDoorQStr
import Derived.Test.YtoebcbmkkhbldaaGreatDoorQLst
import Derived.Test.YtoebcbmkkhbldaaGreatDoorQSta
set_option linter.unusedVariables false
namespace Go.Proofs.YtoebcbmkkhbldaaGreatDoor
open Go.RowKit Go.Mem Sais Go.Lib Go.Wire
set_option maxRecDepth 100000

set_option maxHeartbeats 8000000 in
theorem fnStreamOver_any (ts : List ByteArray) (s : ByteArray) (tv : Value) (w : World) (ht : ∀ t ∈ ts, t.size ≤ 1048576) (hl : ts.length ≤ 1048576) (hs : s.size ≤ 1048576) (hT : TS ts w tv) (hmax : MaxIs w) :
    Calls Tryz.prog 5 #[tv, .string s] w (GB true w) := by
  have hmk := Tryz.makeI64 w ts.length (by omega)
  have hk1 : Grew w (w.alloc (.cells (madeCells #[.int .i64 0] ts.length) 3)) := (Kept.refl _ w).alloc _
  have HC := stream_any ts (List.replicate ts.length 0) 1 s tv _ _ ht hl (by omega) (hT.grew hk1) (zeros_il w ts.length) (by simp) (fun j hj => by rw [(List.mem_replicate.1 hj).2]; omega) (by omega) (hmax.grew hk1)
  rw [show ((1 : Nat) : Int) = 1 from rfl] at HC
  replace HC := Lib.hid HC
  obtain ⟨t, hte⟩ : ∃ t, ts.getD (ts.length - 1) ⟨#[]⟩ = t := ⟨_, rfl⟩
  have hts : t.size ≤ 1048576 := by
    rw [← hte]
    by_cases h0 : 0 < ts.length
    · have := ht ts[ts.length - 1] (List.getElem_mem (by omega))
      simpa [show ts.length - 1 < ts.length by omega] using this
    · rw [List.length_eq_zero_iff.1 (show ts.length = 0 by omega)]; exact Nat.zero_le _
  have HLK := Lib.hid (fun u (hu : Grew w u) => lookup_any t s u (by omega) (by omega) (hmax.grew hu))
  have HRI := Lib.hid (fun u l1 v1 (i1 : IL l1 u v1) (hp : l1.Perm (ints (places t s))) => rising_il (by rw [lookup_len hp]; exact places_big (by omega)) i1)
  have HTE := Lib.hid hte
  have HT := Lib.hid hT
  have HK1 := Lib.hid hk1
  obtain ⟨ta, tc, rfl⟩ := hT.shape
  clear hT hmax ht hte hk1
  go_enter Tryz.func5, Tryz.ntmps5
  go_wp2_with fail
  refine HC.out.mono ?_
  rintro e w2 ⟨vs, v1, v2, rfl, i1, hvl, hL, i2, k2⟩
  obtain ⟨a1, c1, rfl⟩ := i1.shape
  obtain ⟨a2, c2, rfl⟩ := i2.shape
  rw [List.length_map, List.length_range] at i2 ⊢
  rw [hvl] at i1 ⊢
  obtain ⟨b1, o1, cc, e, _, hcell1⟩ := i1.cells (by omega)
  rw [hvl] at e
  injection e with ea en ec
  subst ea ec
  obtain ⟨b2, o2, cc, e, _, hcell2⟩ := i2.cells (by simp)
  rw [List.length_map, List.length_range] at e
  injection e with ea en ec
  subst ea ec
  obtain ⟨l, tl, pl⟩ := hL 0 (by omega)
  have hck1 := hcell1 0 (by omega)
  have hck2 := hcell2 0 (by simp)
  rw [map_get, lastT_zero, HTE.out, Nat.add_zero] at hck2
  rw [lastT_zero, HTE.out] at pl
  rw [Nat.add_zero] at hck1
  have htl := tl.1
  obtain ⟨x, hx⟩ : ∃ x, vs[0]'(by omega) = x := ⟨_, rfl⟩
  rw [hx] at hck1 htl
  have HK2 := Lib.hid (HK1.out.trans k2)
  have HX := Lib.hid (fun u (hu : Grew w2 u) => (⟨(hu.cell _ _ (World.block_lt_of_cell? w2 _ hck2) fun h => h).trans hck2, (hu.cell _ _ (World.block_lt_of_cell? w2 _ hck1) fun h => h).trans hck1⟩ : u.cell? ⟨b2, o2, none⟩ = some (.string t) ∧ u.cell? ⟨b1, o1, none⟩ = some x))
  have HLU := Lib.hid (HLK.out w2.drew HK2.out.drew)
  have HSM := Lib.hid (fun u v3 l1 (hu : Grew w2 u) (hp : l1.Perm (ints (places t s))) (i3 : IL (srt l1) u v3) => by
    have h1 := same_il (htl.grew hu) i3 (by rw [lookup_len pl]; exact places_big (by omega)) (by rw [srt_len, lookup_len hp]; exact places_big (by omega))
    rw [decide_eq_true (srt_of_perm (pl.trans hp.symm))] at h1
    exact h1)
  have HTT := Lib.hid (fun (h0 : 0 < ts.length) => by
    obtain ⟨b, o, c, e, _, hcell⟩ := HT.out.cells h0
    have := hcell (ts.length - 1) (by omega)
    rw [show ts[ts.length - 1] = t by rw [← HTE.out]; simp [show ts.length - 1 < ts.length by omega]] at this
    exact (⟨b, o, c, e, (HK2.out.cell _ _ (World.block_lt_of_cell? w _ this) fun h => h).trans this⟩ : ∃ b o c, Value.slice ta ts.length tc = .slice (some ⟨b, o, none⟩) ts.length c ∧ w2.cell? ⟨b, o + (ts.length - 1), none⟩ = some (.string t)))
  have HT0 : Hid (ts.length = 0 → t = ⟨#[]⟩) := fun h => by rw [← HTE.out, List.length_eq_zero_iff.1 h]; rfl
  clear hcell1 hcell2 tl pl htl hx i1 i2 hL hvl k2 HC HK1 HLK HT HTE
  have cs : w2.cell? ⟨b2, o2, none⟩ = some (.string t) := hck2
  have cx : w2.cell? ⟨b1, o1, none⟩ = some x := hck1
  clear hck1 hck2
  by_cases h0 : 0 < ts.length
  · obtain ⟨b, o, c, e, d1⟩ := HTT.out h0
    injection e with ea en ec
    subst ea ec
    have z1 : (0 : Int) < (ts.length : Int) := by omega
    have z2 : (ts.length : Int) - 1 < (ts.length : Int) := by omega
    have z3 : (0 : Int) ≤ (ts.length : Int) - 1 := by omega
    have z4 : ((ts.length : Int) - 1).toNat = ts.length - 1 := by omega
    clear HTT HT0
    go_wp2_with fail
    go_region_held3 (fun w' => w'.cell? ⟨b2, o2, none⟩ = some (.string t) ∧ w'.cell? ⟨b1, o1, none⟩ = some x)
      (first | (exact HX.out _ HG5.out) | (exact HX.out _ HG4.out) | (exact HX.out _ HG6.out) | go_keep)
      (first
        | (go_at_call 19; (with_reducible refine HLU.out.mono ?_); rintro e w4 ⟨l4, v4, rfl, i4, p4, k4⟩; have HG4 := Lib.hid ((Kept.refl _ w2 : Grew w2 w2).drew.trans k4); have HI4 := Lib.hid i4; have HP4 := Lib.hid p4; clear i4 p4 k4)
        | (go_at_call 18; (with_reducible refine (HRI.out _ _ _ HI4.out HP4.out).mono ?_); rintro e w5 ⟨v5, rfl, i5, k5⟩; have HG5 := Lib.hid (HG4.out.trans k5); have HI5 := Lib.hid i5; clear i5 k5)
        | (go_at_call 14; (with_reducible refine (HSM.out _ _ _ HG5.out HP4.out HI5.out).mono ?_); rintro e w6 ⟨rfl, k6⟩; have HG6 := Lib.hid (HG5.out.trans k6); clear k6))
    go_wp2
    go_ret
    exact ⟨rfl, HK2.out.trans HG6.out⟩
  · obtain rfl := HT0.out (by omega)
    have z0 : ts.length = 0 := by omega
    rw [z0]
    clear HTT HT0 h0
    go_wp2_with fail
    go_region_held3 (fun w' => w'.cell? ⟨b2, o2, none⟩ = some (.string ⟨#[]⟩) ∧ w'.cell? ⟨b1, o1, none⟩ = some x)
      (first | (exact HX.out _ HG5.out) | (exact HX.out _ HG4.out) | (exact HX.out _ HG6.out) | go_keep)
      (first
        | (go_at_call 19; (with_reducible refine HLU.out.mono ?_); rintro e w4 ⟨l4, v4, rfl, i4, p4, k4⟩; have HG4 := Lib.hid ((Kept.refl _ w2 : Grew w2 w2).drew.trans k4); have HI4 := Lib.hid i4; have HP4 := Lib.hid p4; clear i4 p4 k4)
        | (go_at_call 18; (with_reducible refine (HRI.out _ _ _ HI4.out HP4.out).mono ?_); rintro e w5 ⟨v5, rfl, i5, k5⟩; have HG5 := Lib.hid (HG4.out.trans k5); have HI5 := Lib.hid i5; clear i5 k5)
        | (go_at_call 14; (with_reducible refine (HSM.out _ _ _ HG5.out HP4.out HI5.out).mono ?_); rintro e w6 ⟨rfl, k6⟩; have HG6 := Lib.hid (HG5.out.trans k6); clear k6))
    go_wp2
    go_ret
    exact ⟨rfl, HK2.out.trans HG6.out⟩
end Go.Proofs.YtoebcbmkkhbldaaGreatDoor
