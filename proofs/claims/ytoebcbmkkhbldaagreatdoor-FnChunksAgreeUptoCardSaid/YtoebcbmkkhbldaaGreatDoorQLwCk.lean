/- spec.IsCut, FnChunks, FnChunksAgree. -/
import Derived.Test.YtoebcbmkkhbldaaGreatDoorQChk
import Derived.Test.YtoebcbmkkhbldaaGreatDoorQSta
set_option linter.unusedVariables false
namespace Go.Proofs.YtoebcbmkkhbldaaGreatDoor
open Go.RowKit Go.Mem Sais Go.Lib Go.Wire
set_option maxRecDepth 100000

def cutB (l : List Int) : Bool := l.all (fun x => decide (1 ≤ x)) && !l.isEmpty
def IcRel (l : List Int) (w : World) (iv : Value) (wr : World) : Prop := ∃ k : Nat, k ≤ l.length ∧ iv = .int .i64 (k : Nat) ∧ w = wr ∧ Hid (∀ j (h : j < l.length), j < k → 1 ≤ l[j])
theorem isCut_any (l : List Int) (v : Value) (w : World) (h : IL l w v) (hl : l.length ≤ 1073741824) :
    Calls Tryz.prog 20 #[v] w fun e w' => e = .returned (.bool (cutB l)) ∧ w = w' := by
  obtain ⟨a0, c0, rfl⟩ := h.shape
  have HI := Lib.hid h
  have HN : Hid (∀ j (h : j < l.length), l[j] < 1 → cutB l = false) := fun j hj h => by
    have : (l.all fun x => decide (1 ≤ x)) = false := by
      rw [List.all_eq_false]
      exact ⟨l[j], List.getElem_mem hj, by simp; omega⟩
    show cutB l = false
    unfold cutB; rw [this]; rfl
  have HY : Hid ((∀ j (h : j < l.length), 1 ≤ l[j]) → cutB l = decide (0 < l.length)) := fun h => by
    have : (l.all fun x => decide (1 ≤ x)) = true := by
      rw [List.all_eq_true]
      intro x hx
      obtain ⟨j, hj, rfl⟩ := List.getElem_of_mem hx
      exact decide_eq_true (h j hj)
    unfold cutB
    rw [this]
    cases l <;> simp
  clear h
  generalize cutB l = r at *
  go_enter Tryz.func20, Tryz.ntmps20
  go_wp2_with fail
  go_loopw [7, 4] (fun iv _ wr => IcRel l w iv wr) (fun iv _ _ => l.length - (RowKit.intOf iv).toNat)
  case atStart => exact ⟨0, Nat.zero_le _, rfl, rfl, fun j h h2 => by omega⟩
  case round =>
    obtain ⟨k, hk, rfl, rfl, HP⟩ := hrel
    by_cases hlt : k < l.length
    · obtain ⟨b, o, c, e, _, hcell⟩ := HI.out.cells (by omega)
      injection e with ea en ec
      subst ea ec
      have hck := hcell k hlt
      have y1 : (k : Int) < (l.length : Int) := by omega
      have HX : Hid (∀ j (h : j < l.length), j < k + 1 → 1 ≤ l[k] → 1 ≤ l[j]) := fun j h h2 h3 => by
        by_cases e : j = k
        · subst e; exact h3
        · exact HP.out j h (by omega)
      have HFA := Lib.hid (HN.out k hlt)
      clear hcell HI HP HN HY
      generalize l[k] = x at *
      by_cases hx : x < 1
      · obtain rfl := HFA.out hx
        clear HFA HX
        go_wp2
        go_ret
        exact ⟨rfl, rfl⟩
      · have hx1 : 1 ≤ x := by omega
        have HX2 : Hid (∀ j (h : j < l.length), j < k + 1 → 1 ≤ l[j]) := fun j h h2 => HX.out j h h2 hx1
        clear HFA HX
        go_wp2
        go_roundw
        case rel => exact ⟨k + 1, by omega, by go_num, rfl, HX2⟩
        case measure => simp [RowKit.intOf]; omega
    · obtain rfl : l.length = k := by omega
      obtain rfl := HY.out (fun j hj => HP.out j hj hj)
      clear HI HP HN HY
      go_wp2
      go_ret
      exact ⟨rfl, rfl⟩
/-- The rest of FnChunks. -/
theorem cut_pos {l : List Int} (h : cutB l = true) : 0 < l.length ∧ ∀ j (h : j < l.length), 1 ≤ l[j] := by
  unfold cutB at h
  rw [Bool.and_eq_true, List.all_eq_true] at h
  refine ⟨?_, fun j hj => of_decide_eq_true (h.1 _ (List.getElem_mem hj))⟩
  cases l
  · simp at h
  · simp
set_option maxHeartbeats 4000000 in
theorem fnChunks_any (s t : ByteArray) (l : List Int) (v : Value) (w : World) (hs : s.size ≤ 1073741824) (ht : t.size ≤ 1073741824) (h : IL l w v) (hl : l.length ≤ 1073741824) (hb : ∀ x ∈ l, x ≤ 9223372036854775807) (hmax : MaxIs w) :
    Calls Tryz.prog 7 #[.string s, v, .string t] w (GB true w) := by
  have HC1 := isCut_any l v w h hl
  have HA := Lib.hid (fun u (hu : Grew w u) => awake_any u (hmax.grew hu))
  by_cases hc : cutB l = true
  · rw [hc] at HC1
    replace HC1 := Lib.hid HC1
    obtain ⟨hl0, hpos⟩ := cut_pos hc
    obtain ⟨b, o, c, rfl, _, hcell⟩ := h.cells hl0
    have HCH := Lib.hid (chunks_any s t b o l.length c (fun j => l.getD j 0) w hs ht (fun j hj => by rw [hcell j hj]; simp [hj]) (fun j hj => by
      have h1 := hpos j hj
      have h2 := hb l[j] (List.getElem_mem hj)
      simp [hj]; omega) hl0 hl hmax)
    have HPL := Lib.hid (fun u => places_any s t u hs ht)
    have HSM := Lib.hid (fun u l1 v1 v2 (i1 : IL l1 u v1) (i2 : IL (ints (places s t)) u v2) (hp : l1.Perm (ints (places s t))) => by
      have h1 := same_il i1 i2 (by rw [lookup_len hp]; exact places_big hs) (by rw [ints_length]; exact places_big hs)
      rw [decide_eq_true (lookup_srt hp)] at h1
      exact h1)
    clear h hcell hpos hb hc hmax
    go_enter Tryz.func7, Tryz.ntmps7
    go_wp2_with fail
    refine HC1.out.mono ?_
    rintro e w1 ⟨rfl, rfl⟩
    clear HC1
    go_wp2_with fail
    refine HCH.out.mono ?_
    rintro e w1 ⟨l1, v1, rfl, i1, p1, k1⟩
    have HI1 := Lib.hid i1; have HP1 := Lib.hid p1; have HK1 := Lib.hid k1
    clear i1 p1 k1 HCH
    go_wp2_with fail
    refine (HPL.out w1).mono ?_
    rintro e w2 ⟨v2, rfl, i2, k2⟩
    have HS2 := Lib.hid (HSM.out w2 l1 v1 v2 (HI1.out.grew k2) i2 HP1.out)
    have HK2 := Lib.hid (HK1.out.trans k2)
    clear i2 k2 HPL HSM HI1 HP1
    go_wp2_with fail
    refine HS2.out.mono ?_
    rintro e w3 ⟨rfl, k3⟩
    have HA3 := Lib.hid (HA.out w3 (HK2.out.trans k3))
    have HK3 := Lib.hid (HK2.out.trans k3)
    clear k3 HS2 HA
    go_wp2_with fail
    refine HA3.out.mono ?_
    rintro e w4 ⟨rfl, k4⟩
    have HK4 := Lib.hid (HK3.out.trans k4)
    clear k4 HA3
    go_wp2
    go_ret
    exact ⟨rfl, HK4.out⟩
  · have hc' : cutB l = false := by simpa using hc
    rw [hc'] at HC1
    replace HC1 := Lib.hid HC1
    obtain ⟨a0, c0, rfl⟩ := h.shape
    clear h hb hc hc' hmax
    go_enter Tryz.func7, Tryz.ntmps7
    go_wp2_with fail
    refine HC1.out.mono ?_
    rintro e w1 ⟨rfl, rfl⟩
    have HA3 := Lib.hid (HA.out w (Kept.refl _ w))
    clear HC1
    go_wp2_with fail
    refine HA3.out.mono ?_
    rintro e w4 ⟨rfl, k4⟩
    go_wp2
    go_ret
    exact ⟨rfl, k4⟩
set_option maxHeartbeats 4000000 in
theorem fnChunksAgree_any (s t : ByteArray) (z : Int) (w : World) (hs : s.size ≤ 1073741824) (ht : t.size ≤ 1073741824) (hz1 : -9223372036854775808 ≤ z) (hz2 : z < 9223372036854775808) (hmax : MaxIs w) :
    Calls Tryz.prog 8 #[.string s, .int .i64 z, .string t] w (GB true w) := by
  have HA := Lib.hid (fun u (hu : Grew w u) => awake_any u (hmax.grew hu))
  by_cases hz : z < 1
  · clear hmax
    go_enter Tryz.func8, Tryz.ntmps8
    have HA3 := Lib.hid (HA.out w (Kept.refl _ w))
    go_wp2_with fail
    refine HA3.out.mono ?_
    rintro e w4 ⟨rfl, k4⟩
    go_wp2
    go_ret
    exact ⟨rfl, k4⟩
  · have hz3 : 1 ≤ z := by omega
    have HC : Hid (∀ (u : World) (y : Int), Grew w u → 1 ≤ y → y ≤ 9223372036854775807 → Calls Tryz.prog 21 #[.string s, .slice (some ⟨u.heap.size, 0, none⟩) 1 1, .string t] (u.alloc (.cells #[.int .i64 y] 3)) (ChPost s t (u.alloc (.cells #[.int .i64 y] 3)))) := fun u y hu h1 h2 =>
      chunks_any s t u.heap.size 0 1 1 (fun _ => y) _ hs ht (fun j hj => by
        obtain rfl : j = 0 := by omega
        rw [World.cell?_alloc_new]; rfl) (fun j _ => ⟨h1, h2⟩) (by omega) (by omega) ((hmax.grew hu).grew ((Kept.refl _ u).alloc _))
    have HRI := Lib.hid (fun u l1 v1 (i1 : IL l1 u v1) (hp : l1.Perm (ints (places s t))) => rising_il (by rw [lookup_len hp]; exact places_big hs) i1)
    have HSM := Lib.hid (fun u l1 l2 v1 v2 (i1 : IL l1 u v1) (i2 : IL (srt l2) u v2) (hp : l1.Perm (ints (places s t))) (hq : l2.Perm (ints (places s t))) => by
      have h1 := same_il i1 i2 (by rw [lookup_len hp]; exact places_big hs) (by rw [srt_len, lookup_len hq]; exact places_big hs)
      rw [decide_eq_true (srt_of_perm (hp.trans hq.symm))] at h1
      exact h1)
    clear hmax
    have HC1 := Lib.hid (HC.out w 1 (Kept.refl _ w) (by omega) (by omega))
    go_enter Tryz.func8, Tryz.ntmps8
    go_wp2_with fail
    refine HC1.out.mono ?_
    rintro e w1 ⟨l1, v1, rfl, i1, p1, k1⟩
    have HI1 := Lib.hid i1; have HP1 := Lib.hid p1
    have HK1 := Lib.hid (((Kept.refl _ w : Grew w w).alloc _).trans k1)
    have HC2 := Lib.hid (HC.out w1 z HK1.out hz3 (by omega))
    clear i1 p1 k1 HC HC1
    go_wp2_with fail
    refine HC2.out.mono ?_
    rintro e w2 ⟨l2, v2, rfl, i2, p2, k2⟩
    have hk12 := ((Kept.refl _ w1 : Grew w1 w1).alloc (.cells #[.int .i64 z] 3)).trans k2
    have HR2 := Lib.hid (HRI.out w2 l2 v2 i2 p2)
    have HI12 := Lib.hid (HI1.out.grew hk12)
    have HK2 := Lib.hid (HK1.out.trans hk12)
    have HP2 := Lib.hid p2
    clear i2 p2 k2 hk12 HI1 HK1 HC2 HRI
    go_wp2_with fail
    refine HR2.out.mono ?_
    rintro e w3 ⟨v3, rfl, i3, k3⟩
    have HS := Lib.hid (HSM.out w3 l1 l2 v1 v3 (HI12.out.grew k3) i3 HP1.out HP2.out)
    have HK3 := Lib.hid (HK2.out.trans k3)
    clear i3 k3 HSM HR2 HI12 HK2
    go_wp2_with fail
    refine HS.out.mono ?_
    rintro e w4 ⟨rfl, k4⟩
    have HA4 := Lib.hid (HA.out w4 (HK3.out.trans k4))
    have HK4 := Lib.hid (HK3.out.trans k4)
    clear k4 HS HA
    go_wp2_with fail
    refine HA4.out.mono ?_
    rintro e w5 ⟨rfl, k5⟩
    have HK5 := Lib.hid (HK4.out.trans k5)
    clear k5 HA4
    go_wp2
    go_ret
    exact ⟨rfl, HK5.out⟩
end Go.Proofs.YtoebcbmkkhbldaaGreatDoor
