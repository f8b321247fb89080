/- FnDifferent. -/
import Derived.Test.YtgmmenfnhppofaaDoorQDif
set_option linter.unusedVariables false
namespace Go.Proofs.YtgmmenfnhppofaaDoor
open Go.RowKit Go.Mem Sais
set_option maxRecDepth 100000

theorem flatMap_getD {β : Type} (ts : List ByteArray) (f : ByteArray → List β) : ((List.range ts.length).flatMap fun c => f (ts.getD c ByteArray.empty)) = ts.flatMap f := by
  have e : ts = (List.range ts.length).map fun c => ts.getD c ByteArray.empty := by
    refine List.ext_getElem (by simp) fun i h1 h2 => ?_
    simp [List.getD, h1]
  conv => rhs; rw [e, List.flatMap_map]
theorem dif_srt {d : ByteArray} {L : Nat} {al : List Int} (hL : 0 < L) (hn : L ≤ d.size) (h : al.Perm ((difL d L (d.size - L + 1)).flatMap fun t => ints (places d t))) : srt al = ints (List.range (d.size - L + 1)) := by
  refine srt_eq (List.Perm.trans ?_ h.symm) (ints_le List.pairwise_lt_range)
  unfold difL
  rw [List.flatMap_map, ← ints_flatMap]
  exact (ints_perm (diff_law hL hn)).symm
set_option maxHeartbeats 8000000 in
theorem fnDifferent_any (d : ByteArray) (long : Int) (w : World) (hd : d.size ≤ 1048576) (lo : -9223372036854775808 ≤ long) (hi : long < 9223372036854775808) (hmax : MaxIs w) :
    Calls Tryd.prog 14 #[.string d, .int .i64 long] w (GB true w) := by
  have HC3 := Lib.hid (awake_any w hmax)
  have HM := Lib.hid hmax
  clear hmax
  by_cases h1 : long < 1
  · go_enter Tryd.func14, Tryd.ntmps14
    go_wp2_with fail
    refine HC3.out.mono ?_
    rintro e w2 ⟨rfl, k2⟩
    go_wp2
    go_ret
    exact ⟨rfl, k2⟩
  · by_cases h2 : (d.size : Int) < long
    · go_enter Tryd.func14, Tryd.ntmps14
      go_wp2_with fail
      refine HC3.out.mono ?_
      rintro e w2 ⟨rfl, k2⟩
      go_wp2
      go_ret
      exact ⟨rfl, k2⟩
    · obtain ⟨L, rfl⟩ : ∃ n : Nat, long = (n : Int) := ⟨long.toNat, by omega⟩
      by_cases h3 : (2000 : Int) < (d.size : Int)
      · go_enter Tryd.func14, Tryd.ntmps14
        go_wp2_with fail
        refine HC3.out.mono ?_
        rintro e w2 ⟨rfl, k2⟩
        go_wp2
        go_ret
        exact ⟨rfl, k2⟩
      · have hd3 : d.size ≤ 2000 := by omega
        have HD := Lib.hid (different_any d L w hd (by omega) (by omega))
        have HSRT := Lib.hid (fun al h => dif_srt (d := d) (L := L) (al := al) (by omega) (by omega) h)
        obtain ⟨ts, hts⟩ : ∃ ts, difL d L (d.size - L + 1) = ts := ⟨_, rfl⟩
        have htl : ts.length ≤ 2001 := by rw [← hts]; have := difL_len d L (d.size - L + 1); omega
        have htz : ∀ t ∈ ts, t.size ≤ 1073741824 := by
          rw [← hts]; intro t ht
          unfold difL at ht
          obtain ⟨c, _, rfl⟩ := List.mem_map.1 ht
          unfold txt; rw [ByteArray.size_extract]; omega
        rw [hts] at HD HSRT
        have HTZ := Lib.hid htz
        clear hts htz HC3
        go_enter Tryd.func14, Tryd.ntmps14
        go_wp2_with fail
        refine HD.out.mono ?_
        rintro e w1 ⟨v1, rfl, ht1, k1⟩
        have HL := Lib.hid (lookups_any d ts v1 w1 (by omega) HTZ.out (by omega) ht1 (HM.out.grew k1))
        have HK1 := Lib.hid k1
        clear HD ht1 k1 HTZ
        go_wp2_with fail
        refine HL.out.mono ?_
        rintro e w2 ⟨vs, v, rfl, hv, hvl, hll, k2⟩
        obtain ⟨a0, c0, rfl⟩ := hv.shape
        rw [hvl]
        rw [hvl] at hv
        have HV := Lib.hid hv; have HLL := Lib.hid hll; have HVL := Lib.hid hvl
        have HK2 := Lib.hid (HK1.out.trans k2)
        clear HL hv hll k2 HK1 hvl
        go_wp2_with fail
        go_loopw [5, 30, 7] (fun ov i _ wr => JoRel d (fun c => ts.getD c ByteArray.empty) ts.length w2 ov i wr) (fun _ i _ _ => ts.length - (intOf i).toNat)
        case atStart => exact ⟨0, [], by omega, rfl, by simp [Hid], OL.nil _ _, Kept.refl _ _⟩
        case round =>
          obtain ⟨k, al, hk, rfl, HP, HO, HW⟩ := hrel
          have hal : al.length ≤ 2001 * d.size := by
            rw [HP.out.length_eq]
            exact Nat.le_trans (join_len d _ k) (Nat.mul_le_mul_right _ (by omega))
          by_cases hlt : k < ts.length
          · obtain ⟨b0, o0, cc, e, _, hcell⟩ := HV.out.cells (by rw [HVL.out]; omega)
            rw [HVL.out] at e
            injection e with ea en ec
            subst ea ec
            obtain ⟨l, tl, pl⟩ := HLL.out k (by rw [HVL.out]; exact hlt) hlt
            have hck := hcell k (by rw [HVL.out]; exact hlt)
            have htl2 := tl.1
            obtain ⟨x, hx⟩ : ∃ x, vs[k]'(by rw [HVL.out]; exact hlt) = x := ⟨_, rfl⟩
            rw [hx] at hck htl2
            have c1 : wr.cell? ⟨b0, o0 + k, none⟩ = some x := (HW.out.cell _ _ (World.block_lt_of_cell? w2 _ hck) fun h => h).trans hck
            have y1 : (k : Int) < (ts.length : Int) := by omega
            have hl : l.length ≤ d.size := by rw [lookup_len pl]; exact places_len _ _
            have hgd : ts.getD k ByteArray.empty = ts[k] := by simp [List.getD, hlt]
            obtain ⟨v', w', happ, ho', hk'⟩ := append_ints 22 HW.out HO.out (htl2.grew HW.out) (by omega)
            have HP' : Hid ((al ++ l).Perm ((List.range (k + 1)).flatMap fun c => ints (places d ((fun c => ts.getD c ByteArray.empty) c)))) := join_succ (T := fun c => ts.getD c ByteArray.empty) HP.out (by show l.Perm (ints (places d (ts.getD k ByteArray.empty))); rw [hgd]; exact pl)
            have HO' := Lib.hid ho'; have HK' := Lib.hid hk'
            clear ho' hk' HO HW HP tl pl hcell hck htl2 hal hl hx hgd
            go_wp2_with (at_builtin; refine wpList_append_run rfl _ _ _ _ rfl _ _ rfl rfl _ _ happ ?_)
            go_roundw
            case rel => exact ⟨k + 1, al ++ l, by omega, by go_num, HP', HO', HK'⟩
            case measure => simp [intOf]; omega
          · obtain rfl : k = ts.length := by omega
            have hp := HP.out
            rw [show ((List.range ts.length).flatMap fun c => ints (places d ((fun c => ts.getD c ByteArray.empty) c))) = ts.flatMap (fun t => ints (places d t)) from flatMap_getD ts fun t => ints (places d t)] at hp
            have hsr := HSRT.out al hp
            have HI := Lib.hid HO.out.il
            have HR := Lib.hid (rising_il (by omega) HI.out)
            have HKr := Lib.hid (HK2.out.trans HW.out)
            have hall : al.length = d.size - L + 1 := by rw [← srt_len, hsr, ints_length, List.length_range]
            have HSR := Lib.hid hsr
            obtain ⟨a5, c5, e5⟩ := HI.out.shape
            rw [hall] at e5
            subst e5
            clear hp hsr HO HW HP HV HLL HVL HK2 HSRT hal HI hall
            go_wp2_with fail
            refine HR.out.mono ?_
            rintro e w3 ⟨v3, rfl, i3, k3⟩
            rw [HSR.out] at i3
            obtain ⟨b3, o3, c3, rfl, _, hcell3⟩ := i3.cells (by rw [ints_length, List.length_range]; omega)
            have hn3 : (ints (List.range (d.size - L + 1))).length = d.size - L + 1 := by rw [ints_length, List.length_range]
            rw [hn3]
            have HC := Lib.hid (fun k (hk : k < d.size - L + 1) => (hcell3 k (by rw [hn3]; exact hk)).trans (show _ = some (Value.int .i64 (k : Int)) by simp [ints, nint]))
            have HK3 := Lib.hid (HKr.out.trans k3)
            clear HR i3 hcell3 hn3 k3 HKr HSR
            obtain ⟨q, hq⟩ : ∃ q, d.size - L + 1 = q := ⟨_, rfl⟩
            rw [hq] at HC
            rw [hq]
            have hqb : q ≤ 2001 := by omega
            have hLb : L ≤ 2000 := by omega
            have hLd : (L : Int) ≤ (d.size : Int) := by omega
            have HQ := Lib.hid hq
            clear hq
            go_wp2_with fail
            go_loop [41, 8, 9] (fun i _ _ => ∃ k : Nat, k ≤ q ∧ i = .int .i64 k) (fun i _ _ => q - (intOf i).toNat)
            case atStart => exact ⟨0, by omega, rfl⟩
            case round =>
              obtain ⟨k, hk, rfl⟩ := hrel
              by_cases hlt : k < q
              · have cx := HC.out k hlt
                have y1 : (k : Int) < (q : Int) := by omega
                go_wp2
                go_round
                case rel => exact ⟨k + 1, by omega, by go_num⟩
                case measure => simp [intOf]; omega
              · obtain rfl : k = q := by omega
                have hkq := HQ.out
                have y1 : ((k : Int) == (d.size : Int) - (L : Int) + 1) = true := by
                  have : (k : Int) = (d.size : Int) - (L : Int) + 1 := by omega
                  rw [this]; simp
                clear HC HQ hkq
                go_wp2
                go_ret
                exact ⟨rfl, HK3.out⟩
end Go.Proofs.YtgmmenfnhppofaaDoor
