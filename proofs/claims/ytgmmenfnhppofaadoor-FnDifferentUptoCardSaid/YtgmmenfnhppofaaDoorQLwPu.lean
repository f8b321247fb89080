/- FnPut. -/
import Derived.Test.YtgmmenfnhppofaaDoorQLwTu
set_option linter.unusedVariables false
namespace Go.Proofs.YtgmmenfnhppofaaDoor
open Go.RowKit Go.Mem Sais
set_option maxRecDepth 100000

theorem fm_take {l : List Int} {F : Int → Option Int} {k : Nat} (h : k < l.length) : (l.take (k + 1)).filterMap F = (l.take k).filterMap F ++ (F l[k]).toList := by
  rw [List.take_succ_eq_append_getElem h, List.filterMap_append]
  cases hF : F l[k] <;> simp [hF]
theorem fm_len (l : List Int) (F : Int → Option Int) (k : Nat) : ((l.take k).filterMap F).length ≤ l.length := Nat.le_trans (List.length_filterMap_le _ _) (by simp; omega)
def FmRel (l : List Int) (F : Int → Option Int) (w : World) (ov iv : Value) (wr : World) : Prop := ∃ k : Nat, k ≤ l.length ∧ iv = .int .i64 k ∧ Hid (OL w.heap.size ((l.take k).filterMap F) wr ov) ∧ Hid (Grew w wr)
theorem put_same {d d' s : ByteArray} {a k m : Nat} {l1 l2 : List Int} (hlaw : (ints (places d s)).filterMap (putF a k m) = (ints (places d' s)).filter (putB a k m)) (h1 : l1.Perm (ints (places d s))) (h2 : l2.Perm (ints (places d' s))) :
    srt (l2.filter (putB a k m)) = srt (l1.filterMap (putF a k m)) := by
  rw [srt_of_perm (h1.filterMap _), srt_of_perm (h2.filter _), hlaw]
set_option maxHeartbeats 8000000 in
theorem fnPut_any (d s m : ByteArray) (at' : Int) (w : World) (hd : d.size ≤ 268435456) (hs : s.size ≤ 268435456) (hm : m.size ≤ 268435456) (lo : -9223372036854775808 ≤ at') (hi : at' < 9223372036854775808) (hmax : MaxIs w) :
    Calls Tryd.prog 7 #[.string d, .string s, .string m, .int .i64 at'] w (GB true w) := by
  have HC3 := Lib.hid (fun u (hu : Grew w u) => awake_any u (hmax.grew hu))
  have HM := Lib.hid hmax
  clear hmax
  by_cases h1 : at' < 0
  · go_enter Tryd.func7, Tryd.ntmps7
    go_wp2_with fail
    refine (HC3.out w (Kept.refl _ w)).mono ?_
    rintro e w2 ⟨rfl, k2⟩
    go_wp2
    go_ret
    exact ⟨rfl, k2⟩
  · by_cases h2 : (d.size : Int) < at'
    · go_enter Tryd.func7, Tryd.ntmps7
      go_wp2_with fail
      refine (HC3.out w (Kept.refl _ w)).mono ?_
      rintro e w2 ⟨rfl, k2⟩
      go_wp2
      go_ret
      exact ⟨rfl, k2⟩
    · obtain ⟨a, rfl⟩ : ∃ n : Nat, at' = (n : Int) := ⟨at'.toNat, by omega⟩
      by_cases h0 : s.size = 0
      · have hn : s.toList = [] := toList_nil.2 h0
        go_enter Tryd.func7, Tryd.ntmps7
        go_wp2_with fail
        refine (HC3.out w (Kept.refl _ w)).mono ?_
        rintro e w2 ⟨rfl, k2⟩
        go_wp2
        go_ret
        exact ⟨rfl, k2⟩
      · have hn : ¬ s.toList = [] := fun h => h0 (toList_nil.1 h)
        have hn2 : s.toList.isEmpty = false := by simpa using hn
        have HLAW := Lib.hid (put_law d s m a (by omega) (by omega))
        have hz : (d.extract 0 a ++ m ++ d.extract a d.size).size ≤ 1073741824 := by
          rw [ByteArray.size_append, ByteArray.size_append, size_extract' (by omega), size_extract' (Nat.le_refl _)]; omega
        have hz' := Lib.hid hz
        have HC1 := Lib.hid (lookup_any d s w (by omega) (by omega) HM.out)
        have HC2 := Lib.hid (fun u (hu : Grew w u) => lookup_any (d.extract 0 a ++ m ++ d.extract a d.size) s u hz (by omega) (HM.out.grew hu))
        clear hz
        go_enter Tryd.func7, Tryd.ntmps7
        go_wp2_with fail
        refine HC1.out.mono ?_
        rintro e w1 ⟨l1, v1, rfl, i1, hp1, k1⟩
        obtain ⟨a1, c1, rfl⟩ := i1.shape
        have HI1 := Lib.hid i1; have HP1 := Lib.hid hp1; have HK1 := Lib.hid k1
        have HX1 := Lib.hid (lookup_bd (by omega) hp1)
        have hl1 : l1.length ≤ 268435456 := by rw [lookup_len hp1]; exact Nat.le_trans (places_len _ _) hd
        clear HC1 i1 hp1 k1
        go_wp2_with fail
        go_loopw [9, 32, 12] (fun ov i _ wr => FmRel l1 (putF a s.size m.size) w1 ov i wr) (fun _ i _ _ => l1.length - (intOf i).toNat)
        case atStart => exact ⟨0, by omega, rfl, OL.nil _ _, Kept.refl _ _⟩
        case round =>
          obtain ⟨k, hk, rfl, HO, HW⟩ := hrel
          by_cases hlt : k < l1.length
          · obtain ⟨b, o, c, e, hc, hcell⟩ := HI1.out.cells (by omega)
            injection e with ea en ec
            subst ea ec
            have hck := hcell k hlt
            have c1 : wr.cell? ⟨b, o + k, none⟩ = some (.int .i64 l1[k]) := (HW.out.cell _ _ (World.block_lt_of_cell? w1 _ hck) fun h => h).trans hck
            have y1 : (k : Int) < (l1.length : Int) := by omega
            obtain ⟨x0, x1⟩ := HX1.out l1[k] (List.getElem_mem hlt)
            have hfm := fm_take (F := putF a s.size m.size) hlt
            have hfl := fm_len l1 (putF a s.size m.size) k
            clear hcell hck HX1 HP1 HI1 HLAW HC2 HC3
            by_cases f1 : l1[k] + (s.size : Int) ≤ (a : Int)
            · have hF : putF a s.size m.size l1[k] = some l1[k] := by unfold putF; rw [if_pos f1]
              obtain ⟨v', w', happ, ho', hk'⟩ := append_int l1[k] 3 22 HW.out HO.out (by omega)
              have HO' : Hid (OL w1.heap.size ((l1.take (k + 1)).filterMap (putF a s.size m.size)) w' v') := by rw [hfm, hF]; exact ho'
              have HK' := Lib.hid hk'
              clear ho' hk' HO HW hfm hF hfl
              generalize l1[k] = x at *
              go_wp2_with (at_builtin; refine wpList_append_run rfl _ _ _ _ rfl _ _ rfl rfl _ _ happ ?_)
              go_roundw
              case rel => exact ⟨k + 1, by omega, by go_num, HO', HK'⟩
              case measure => simp [intOf]; omega
            · by_cases f2 : (a : Int) ≤ l1[k]
              · have hF : putF a s.size m.size l1[k] = some (l1[k] + (m.size : Int)) := by unfold putF; rw [if_neg f1, if_pos f2]
                obtain ⟨v', w', happ, ho', hk'⟩ := append_int (l1[k] + (m.size : Int)) 3 22 HW.out HO.out (by omega)
                have HO' : Hid (OL w1.heap.size ((l1.take (k + 1)).filterMap (putF a s.size m.size)) w' v') := by rw [hfm, hF]; exact ho'
                have HK' := Lib.hid hk'
                clear ho' hk' HO HW hfm hF hfl
                generalize l1[k] = x at *
                go_wp2_with (at_builtin; refine wpList_append_run rfl _ _ _ _ rfl _ _ rfl rfl _ _ happ ?_)
                go_roundw
                case rel => exact ⟨k + 1, by omega, by go_num, HO', HK'⟩
                case measure => simp [intOf]; omega
              · have hF : putF a s.size m.size l1[k] = none := by unfold putF; rw [if_neg f1, if_neg f2]
                have HO' : Hid (OL w1.heap.size ((l1.take (k + 1)).filterMap (putF a s.size m.size)) wr u9) := by rw [hfm, hF, Option.toList_none, List.append_nil]; exact HO.out
                clear HO hfm hF hfl
                generalize l1[k] = x at *
                go_wp2
                go_roundw
                case rel => exact ⟨k + 1, by omega, by go_num, HO', HW⟩
                case measure => simp [intOf]; omega
          · obtain rfl : k = l1.length := by omega
            have hO := HO.out
            rw [List.take_length] at hO
            have HI9 := Lib.hid hO.il
            have HKr := Lib.hid (HK1.out.trans HW.out)
            have hfl := fm_len l1 (putF a s.size m.size) l1.length
            rw [List.take_length] at hfl
            have g1 : ¬ 9223372036854775807 < min a d.size + m.size := by omega
            have g2 : ¬ 9223372036854775807 < min a d.size + m.size + (d.size - a) := by omega
            have y2 : (a : Int) ≤ (d.size : Int) := by omega
            have HC4 := Lib.hid (HC2.out wr.drew HKr.out.drew)
            have HFL := Lib.hid hfl
            clear hO HO HX1 HI1 HC2 hfl
            go_wp2_with fail
            go_region_with (go_at_call 27; (with_reducible refine HC4.out.mono ?_); rintro e w3 ⟨l3, v3, rfl, i3, hp3, k3⟩; obtain ⟨a3, c3, rfl⟩ := i3.shape; have HI3 := Lib.hid i3; have HP3 := Lib.hid hp3; have HK3 := Lib.hid k3; clear i3 hp3 k3)
            go_simp
            have HI9' := Lib.hid (HI9.out.grew ((Kept.refl _ wr : Grew wr wr).drew.trans HK3.out))
            have HK3' := Lib.hid (HKr.out.drew.trans HK3.out)
            have HX3 := Lib.hid (lookup_bd hz'.out HP3.out)
            have hl3 : l3.length ≤ 1073741824 := by rw [lookup_len HP3.out]; exact places_big hz'.out
            have HSM := Lib.hid (put_same HLAW.out HP1.out HP3.out)
            clear HI9 HK3 HKr HW HK1 HC4 HLAW HP1 HP3 g1 g2
            go_wp2_with fail
            go_loopw [10, 71, 14] (fun ov i _ wr => GaRel l3 (putB a s.size m.size) w3 ov i wr) (fun _ i _ _ => l3.length - (intOf i).toNat)
            case atStart => exact ⟨0, by omega, rfl, OL.nil _ _, Kept.refl _ _⟩
            case round =>
              obtain ⟨k, hk, rfl, HO, HW⟩ := hrel
              by_cases hlt : k < l3.length
              · obtain ⟨b, o, c, e, hc, hcell⟩ := HI3.out.cells (by omega)
                injection e with ea en ec
                subst ea ec
                have hck := hcell k hlt
                have c1 : wr.cell? ⟨b, o + k, none⟩ = some (.int .i64 l3[k]) := (HW.out.cell _ _ (World.block_lt_of_cell? w3 _ hck) fun h => h).trans hck
                have y1 : (k : Int) < (l3.length : Int) := by omega
                obtain ⟨x0, x1⟩ := HX3.out l3[k] (List.getElem_mem hlt)
                clear hcell hck HX3 HSM HI3 HC3
                by_cases hf : putB a s.size m.size l3[k] = true
                · obtain ⟨v', w', happ, ho', hk'⟩ := append_int l3[k] 3 22 HW.out HO.out (by have := filter_take_len l3 (putB a s.size m.size) k; omega)
                  rw [← filter_take_yes hf] at ho'
                  have HO' := Lib.hid ho'; have HK' := Lib.hid hk'
                  have hff : l3[k] + (s.size : Int) ≤ (a : Int) ∨ (a : Int) + (m.size : Int) ≤ l3[k] := by simpa [putB] using hf
                  clear ho' hk' HO HW hf
                  generalize l3[k] = x at *
                  by_cases f1 : x + (s.size : Int) ≤ (a : Int)
                  · go_wp2_with (at_builtin; refine wpList_append_run rfl _ _ _ _ rfl _ _ rfl rfl _ _ happ ?_)
                    go_roundw
                    case rel => exact ⟨k + 1, by omega, by go_num, HO', HK'⟩
                    case measure => simp [intOf]; omega
                  · have f2 : (a : Int) + (m.size : Int) ≤ x := by omega
                    go_wp2_with (at_builtin; refine wpList_append_run rfl _ _ _ _ rfl _ _ rfl rfl _ _ happ ?_)
                    go_roundw
                    case rel => exact ⟨k + 1, by omega, by go_num, HO', HK'⟩
                    case measure => simp [intOf]; omega
                · have hf : putB a s.size m.size l3[k] = false := by simpa using hf
                  have HO' : Hid (OL w3.heap.size ((l3.take (k + 1)).filter (putB a s.size m.size)) wr u10) := by rw [filter_take_no hf]; exact HO.out
                  have hff : ¬ l3[k] + (s.size : Int) ≤ (a : Int) ∧ ¬ (a : Int) + (m.size : Int) ≤ l3[k] := by simpa [putB] using hf
                  obtain ⟨f1, f2⟩ := hff
                  clear HO hf
                  generalize l3[k] = x at *
                  go_wp2
                  go_roundw
                  case rel => exact ⟨k + 1, by omega, by go_num, HO', HW⟩
                  case measure => simp [intOf]; omega
              · obtain rfl : k = l3.length := by omega
                have hO := HO.out
                rw [List.take_length] at hO
                have HIs := Lib.hid hO.il
                have HIw := Lib.hid (HI9'.out.grew HW.out)
                have HKw := Lib.hid (HK3'.out.trans HW.out)
                have HC5 := Lib.hid (rising_il (by have := HFL.out; omega) HIw.out)
                clear hO HO HX3 HI3 HI9' HK3' HW HIw
                go_wp2_with fail
                refine HC5.out.mono ?_
                rintro e w4 ⟨v4, rfl, i4, k4⟩
                have HC6 := Lib.hid (same_il (HIs.out.grew k4) i4 (Nat.le_trans (List.length_filter_le _ _) hl3) (by rw [srt_len]; have := HFL.out; omega))
                rw [decide_eq_true HSM.out] at HC6
                have HK4 := Lib.hid (HKw.out.trans k4)
                clear HC5 i4 k4 HIs HSM HKw
                go_wp2_with fail
                refine HC6.out.mono ?_
                rintro e w5 ⟨rfl, k5⟩
                have HK5 := Lib.hid (HK4.out.trans k5)
                clear HC6 k5 HK4
                go_wp2_with fail
                refine (HC3.out w5 HK5.out).mono ?_
                rintro e w6 ⟨rfl, k6⟩
                go_wp2
                go_ret
                exact ⟨rfl, HK5.out.trans k6⟩
end Go.Proofs.YtgmmenfnhppofaaDoor
