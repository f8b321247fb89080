/- Texts in one: Place8 SubL8 SubS8 FinL8 FinS8 Exp8 Un8 Len8 Asg8 -/
import Derived.Test.YtoebcbmkkhbldaaDoorA2
import Derived.Deep.DeepCutAuto
/- The walks over placeLMS. -/
set_option linter.unusedVariables false
namespace Go.Proofs.YtoebcbmkkhbldaaDoor
open Go.RowKit Go.Mem Sais
set_option maxRecDepth 100000


set_option maxHeartbeats 4000000 in
theorem placeLMS_8_32 (T : Nat → Nat) (n tb tx tc sb so sc fb fo fm bb bo bc : Nat) (fv : Value) (sa g : Nat → Int) (w : World) (L : Lay T n 256 tb tx sb so fb fo fm bb bo) (hbc : 256 ≤ bc) (H : St .u8 T n 256 tb tx sb so fb fo fm bb bo fv w sa g) (hz : ∀ x, x < n → sa x = 0) :
    Calls Tryd.prog 35 #[.slice (some ⟨tb, tx, none⟩) n tc, .slice (some ⟨sb, so, none⟩) n sc, fv, .slice (some ⟨bb, bo, none⟩) 256 bc] w
      (SPost .u8 T n 256 tb tx sb so fb fo fm bb bo fv w (.int .i64 (nLMS T n : Nat)) fun sa' => (1 < nLMS T n → ∃ lo, First T n lo ∧ Laid T n lo (e1 T n) sa') ∧ (nLMS T n ≤ 1 → Laid T n 0 (kfull T n) sa')) := by
  have hcall := bucketMax_8_32 T n L.hT L.hn tb tx tc fb fo fm bb bo bc fv g w hbc H.t H.f H.b L.tf L.tp L.fp
  have HC := Lib.hid hcall; clear hcall
  have HL := Lib.hid L; clear L
  have HH := Lib.hid H; clear H
  have HZ := Lib.hid hz; clear hz
  have hn := HL.out.hn
  go_enter Tryd.func35, Tryd.ntmps35
  go_wp2_with (go_at_call 59; refine HC.out.mono ?_; rintro e w1 ⟨rfl, g1, hg1, hb1, hf1, hk1⟩; have HS1 := Lib.hid (HH.out.after HL.out hk1 hb1 hf1); have HK1 := Lib.hid (Kp.of_two (n := n) (sb := sb) (so := so) hk1); have HP := Lib.hid (Sais.Place.init (M := 256) HZ.out hg1); clear hg1 hb1 hf1 hk1)
  clear HC HH HZ
  go_loopw [9, 10, 11, 13, 14] (fun nm lb c0 fl i wr => ∃ (j num : Nat) (q lbv : Int) (c : Nat) (sv : Bool) (sa P : Nat → Int), j ≤ n ∧ q = (j : Int) - 1 ∧ i = .int .i64 q ∧ nm = .int .i64 num ∧ lb = .int .i32 lbv ∧ c0 = .int .u8 c ∧ fl = .bool sv ∧ (j < n → c = T j) ∧ (j = n → c = 0) ∧ (sv = true ↔ isS T n j) ∧ Sais.Place T n 256 j sa P num lbv ∧ St .u8 T n 256 tb tx sb so fb fo fm bb bo fv wr sa P ∧ Kp n 256 sb so fb fo fm bb bo w wr) (fun _ _ _ _ i _ => (intOf i + 1).toNat)
  case atStart => exact ⟨n, 0, _, -1, 0, false, _, _, Nat.le_refl _, rfl, rfl, rfl, rfl, rfl, rfl, fun h => by omega, fun _ => rfl, ⟨(fun h => by cases h), fun h => by have := isS_lt h; omega⟩, HP.out, HS1.out, HK1.out⟩
  case round =>
    obtain ⟨j, num, q, lbv, c, sv, sa, P, hj, hq, rfl, rfl, rfl, rfl, rfl, hc1, hc2, hsv, hP, hSt, hKp⟩ := hrel
    clear HS1 HK1 HP
    have hnum : num ≤ n := by rw [hP.nm]; exact cnt_le _ _
    by_cases hj0 : j = 0
    · subst hj0
      obtain rfl : q = -1 := by omega
      have hN : num = nLMS T n := by rw [hP.nm]; exact cnt_congr fun q _ => ⟨fun h => h.1, fun h => ⟨h, h.1⟩⟩
      clear hc1 hc2 hsv hq
      by_cases hm : 1 < num
      · obtain ⟨lo, s, hlb, hs, hF, hLd, -⟩ := hP.many hm
        subst hlb
        obtain ⟨hcs, hfs⟩ := hSt.s s hs
        have HS' := Lib.hid (hSt.setS HL.out hs 0)
        have HK' := Lib.hid (hKp.setS hs (.int .i32 0))
        have HP' := Lib.hid (show (1 < nLMS T n → ∃ lo, First T n lo ∧ Laid T n lo (e1 T n) (upd sa s 0)) ∧ (nLMS T n ≤ 1 → Laid T n 0 (kfull T n) (upd sa s 0)) from ⟨fun _ => ⟨lo, hF, hLd⟩, fun h => by omega⟩)
        have HN := Lib.hid hN
        clear hP hSt hKp hF hLd hN
        have hs' : (s : Int) < (n : Int) := by omega
        have hm' : (1 : Int) < (num : Int) := by omega
        go_wp2
        go_ret
        exact SPost.mk (ret_int (by rw [HN.out])) HS'.out HK'.out HP'.out
      · have HS' := Lib.hid hSt
        have HK' := Lib.hid hKp
        have HP' := Lib.hid (show (1 < nLMS T n → ∃ lo, First T n lo ∧ Laid T n lo (e1 T n) sa) ∧ (nLMS T n ≤ 1 → Laid T n 0 (kfull T n) sa) from ⟨fun h => by omega, fun h => hP.few (by omega)⟩)
        have HN := Lib.hid hN
        clear hP hSt hKp hN
        have hm' : ¬ (1 : Int) < (num : Int) := by omega
        go_wp2
        go_ret
        exact SPost.mk (ret_int (by rw [HN.out])) HS'.out HK'.out HP'.out
    · obtain ⟨m, rfl⟩ : ∃ m, j = m + 1 := ⟨j - 1, by omega⟩
      obtain rfl : q = (m : Int) := by omega
      clear hq hj0
      have hct : wr.cell? ⟨tb, tx + m, none⟩ = some (.int .u8 (T m : Int)) := hSt.t m (by omega)
      obtain ⟨d, hd⟩ : ∃ d, T m = d := ⟨_, rfl⟩
      rw [hd] at hct
      have hmn : (m : Int) < (n : Int) := by omega
      have hm0 : (0 : Int) ≤ (m : Int) := by omega
      by_cases w1 : d < c
      · -- an S place
        have hmn1 : m + 1 < n := by
          refine Classical.byContradiction fun hh => ?_
          have := hc2 (by omega); omega
        have hit := iter_lt (T := T) (n := n) (j := m + 1) (by omega) hmn1 (by have := hc1 hmn1; simp only [Nat.add_sub_cancel]; omega)
        simp only [Nat.add_sub_cancel] at hit
        have HR := Lib.hid (show (m < n → d = T m) ∧ (m = n → d = 0) ∧ (true = true ↔ isS T n m) ∧ Sais.Place T n 256 m sa P num lbv from ⟨fun _ => hd.symm, fun h => by omega, ⟨fun _ => hit.1, fun _ => rfl⟩, hP.none hit.2⟩)
        have HS' := Lib.hid hSt
        have HK' := Lib.hid hKp
        clear hc1 hc2 hsv hP hSt hKp hd hit
        go_wp2
        go_roundw
        case rel => exact ⟨m, num, _, lbv, d, true, sa, P, by omega, rfl, rfl, rfl, rfl, rfl, rfl, HR.out.1, HR.out.2.1, HR.out.2.2.1, HR.out.2.2.2, HS'.out, HK'.out⟩
        case measure => simp [intOf]
      · by_cases w2 : c < d ∧ sv = true
        · obtain ⟨w2, rfl⟩ := w2
          have hS1 := hsv.1 rfl
          have hmn1 : m + 1 < n := by have := isS_lt hS1; omega
          have hcT := hc1 hmn1
          have hit := iter_lms (T := T) (n := n) (j := m + 1) (by omega) hmn1 (by simp only [Nat.add_sub_cancel]; omega) hS1
          simp only [Nat.add_sub_cancel] at hit
          obtain ⟨s, hs1, hs2, hP'⟩ := hP.lms HL.out.hT hit.1
          have hcM : c < 256 := by rw [hcT]; exact HL.out.hT _ hmn1
          rw [← hcT] at hs1 hP'
          obtain ⟨hcb, hfb⟩ := hSt.b c hcM
          rw [hs1] at hcb
          obtain ⟨hcs, hfs⟩ := hSt.s s hs2
          have hSt1 := hSt.setB HL.out hcM (P c - 1)
          have hSt2 := hSt1.setS HL.out hs2 ((m : Int) + 1)
          have hKp2 := (hKp.setB hcM (.int .i32 (P c - 1))).setS hs2 (.int .i32 ((m : Int) + 1))
          rw [drop1_upd] at hSt2
          rw [hs1, Int.add_sub_cancel] at hSt2 hKp2
          obtain ⟨hcs1, hfs1⟩ := (hSt1.s s hs2)
          rw [hs1, Int.add_sub_cancel] at hcs1 hfs1
          have HR := Lib.hid (show (m < n → d = T m) ∧ (m = n → d = 0) ∧ (false = true ↔ isS T n m) ∧ Sais.Place T n 256 m _ _ (num + 1) s from ⟨fun _ => hd.symm, fun h => by omega, ⟨(fun h => by cases h), fun h => (hit.2 h).elim⟩, hP'⟩)
          have HS' := Lib.hid hSt2
          have HK' := Lib.hid hKp2
          clear hc1 hc2 hsv hP hP' hSt hSt1 hSt2 hKp hKp2 hd hit hcT hs1 hS1 hcs hfs
          have hs' : (s : Int) < (n : Int) := by omega
          have hcM' : (c : Int) < (256 : Int) := by omega
          go_wp2
          go_roundw
          case rel => exact ⟨m, num + 1, _, s, d, false, _, _, by omega, rfl, rfl, by go_num, rfl, rfl, rfl, HR.out.1, HR.out.2.1, HR.out.2.2.1, HR.out.2.2.2, HS'.out, HK'.out⟩
          case measure => simp [intOf]
        · have hrest : (sv = true ↔ isS T n m) ∧ ¬ LMS T n (m + 1) := by
            by_cases hmn1 : m + 1 < n
            · have hcT := hc1 hmn1
              have hit := iter_else (T := T) (n := n) (j := m + 1) (by omega) hmn1 (by simp only [Nat.add_sub_cancel]; omega) (fun hh => w2 ⟨by simp only [Nat.add_sub_cancel] at hh; omega, hsv.2 hh.2⟩)
              simp only [Nat.add_sub_cancel] at hit
              exact ⟨hsv.trans hit.1.symm, hit.2⟩
            · have e : m + 1 = n := by omega
              have h1 : ¬ isS T n (m + 1) := fun h => by have := isS_lt h; omega
              have h2 : ¬ isS T n m := fun h => by have := isS_lt h; omega
              exact ⟨⟨fun h => (h1 (hsv.1 h)).elim, fun h => (h2 h).elim⟩, fun h => h1 (LMS_S h)⟩
          have HR := Lib.hid (show (m < n → d = T m) ∧ (m = n → d = 0) ∧ (sv = true ↔ isS T n m) ∧ Sais.Place T n 256 m sa P num lbv from ⟨fun _ => hd.symm, fun h => by omega, hrest.1, hP.none hrest.2⟩)
          have HS' := Lib.hid hSt
          have HK' := Lib.hid hKp
          clear hc1 hc2 hsv hP hSt hKp hd hrest
          by_cases w3 : c < d
          · obtain rfl : sv = false := by cases sv; rfl; exact (w2 ⟨w3, rfl⟩).elim
            clear w2
            go_wp2
            go_roundw
            case rel => exact ⟨m, num, _, lbv, d, false, sa, P, by omega, rfl, rfl, rfl, rfl, rfl, rfl, HR.out.1, HR.out.2.1, HR.out.2.2.1, HR.out.2.2.2, HS'.out, HK'.out⟩
            case measure => simp [intOf]
          · clear w2
            go_wp2
            go_roundw
            case rel => exact ⟨m, num, _, lbv, d, sv, sa, P, by omega, rfl, rfl, rfl, rfl, rfl, rfl, HR.out.1, HR.out.2.1, HR.out.2.2.1, HR.out.2.2.2, HS'.out, HK'.out⟩
            case measure => simp [intOf]

end Go.Proofs.YtoebcbmkkhbldaaDoor

/- The walks over a scan. -/
set_option linter.unusedVariables false
namespace Go.Proofs.YtoebcbmkkhbldaaDoor
open Go.RowKit Go.Mem Sais
set_option maxRecDepth 100000


set_option maxHeartbeats 8000000 in
theorem induceSubL_8_32 (T : Nat → Nat) (n tb tx tc sb so sc fb fo fm bb bo bc : Nat) (fv : Value) (sa g : Nat → Int) (w : World) (L : Lay T n 256 tb tx sb so fb fo fm bb bo) (hbc : 256 ≤ bc) (H : St .u8 T n 256 tb tx sb so fb fo fm bb bo fv w sa g) (lo : Nat) (F : First T n lo) (hLd : Laid T n lo (e1 T n) sa) :
    Calls Tryd.prog 36 #[.slice (some ⟨tb, tx, none⟩) n tc, .slice (some ⟨sb, so, none⟩) n sc, fv, .slice (some ⟨bb, bo, none⟩) 256 bc] w
      (SPost .u8 T n 256 tb tx sb so fb fo fm bb bo fv w (.tuple #[]) fun sa' => ∃ P, SubL T n lo 256 (k1 T n) (e1 T n) n sa' P) := by
  have hcall := bucketMin_8_32 T n L.hT L.hn tb tx tc fb fo fm bb bo bc fv g w hbc H.t H.f H.b L.tf L.tp L.fp
  have HC := Lib.hid hcall; clear hcall
  have HL := Lib.hid L; clear L
  have HH := Lib.hid H; clear H
  have HLD := Lib.hid hLd; clear hLd
  have hn2 : 2 ≤ n := by have h1 := F.lms.1; have h2 := F.lms.2.1; omega
  have HFi := Lib.hid F; clear F
  have hn := HL.out.hn
  have hM0 := HL.out.M0
  have x1 : ((n : Int) - 1).toNat = n - 1 := by omega
  have x2 : ((n : Int) - 1 - 1).toNat = n - 1 - 1 := by omega
  have x3 : (0 : Int) ≤ (n : Int) - 1 := by omega
  have x4 : (0 : Int) ≤ (n : Int) - 1 - 1 := by omega
  have x5 : (n : Int) - 1 < (n : Int) := by omega
  have x6 : (n : Int) - 1 - 1 < (n : Int) := by omega
  go_enter Tryd.func36, Tryd.ntmps36
  go_wp2_with (go_at_call 60; refine HC.out.mono ?_; rintro e w1 ⟨rfl, g1, hg1, hb1, hf1, hk1⟩; have HG := Lib.hid hg1; have HS1 := Lib.hid (HH.out.after HL.out hk1 hb1 hf1); have HK1 := Lib.hid (Kp.of_two (n := n) (sb := sb) (so := so) hk1); clear hg1 hb1 hf1 hk1)
  clear HC HH
  have hct1 : w1.cell? ⟨tb, tx + (n - 1), none⟩ = some (.int .u8 (T (n - 1) : Int)) := HS1.out.t (n - 1) (by omega)
  have hct2 : w1.cell? ⟨tb, tx + (n - 1 - 1), none⟩ = some (.int .u8 (T (n - 1 - 1) : Int)) := HS1.out.t (n - 1 - 1) (by omega)
  obtain ⟨s, hs1, hs2, hI⟩ := SubL.init (keys_one HFi.out.lms) HL.out.hT HFi.out.lms HLD.out HG.out
  obtain ⟨c1, hc1⟩ : ∃ c, T (n - 1) = c := ⟨_, rfl⟩
  obtain ⟨c0, hc0⟩ : ∃ c, T (n - 1 - 1) = c := ⟨_, rfl⟩
  have hcM : c1 < 256 := by rw [← hc1]; exact HL.out.hT _ (by omega)
  rw [hc1] at hct1 hI hs1
  rw [hc0] at hct2 hI
  have HI := Lib.hid hI; clear hI
  have HS0 := Lib.hid hs1; clear hs1 HLD HG hc1 hc0
  go_quiet (fail)
  clear hct1 hct2
  generalize hwq : w1.drewN _ = wq
  obtain ⟨nq, hwr⟩ : ∃ m, w1.drewN m = wq := ⟨_, hwq⟩
  clear hwq
  have HS2 : Hid (St .u8 T n 256 tb tx sb so fb fo fm bb bo fv wq sa g1) := by subst hwr; exact HS1.out.drewN nq
  have HK2 : Hid (Kp n 256 sb so fb fo fm bb bo w wq) := by subst hwr; exact HK1.out.drewN nq
  clear hwr HS1 HK1
  go_upto_if 38 with fail
  go_cut [8] (fun ks wx => ∃ kv : Int, ks = .int .i64 kv ∧ wx = wq ∧ Hid (kv = if c0 < c1 then -((n : Int) - 1) else (n : Int) - 1) ∧ -(n : Int) < kv ∧ kv < (n : Int))
  case first =>
    by_cases hlt0 : c0 < c1
    · go_wp2
      go_meet
      exact ⟨_, rfl, rfl, (show Hid _ from (if_pos hlt0).symm), by omega, by omega⟩
    · go_wp2
      go_meet
      exact ⟨_, rfl, rfl, (show Hid _ from (if_neg hlt0).symm), by omega, by omega⟩
  case rest =>
    obtain ⟨kv, rfl, rfl, HKV, hkv0, hkv1⟩ := hcut
    clear x1 x2 x3 x4 x5 x6
    obtain ⟨hcb, hfb⟩ := HS2.out.b c1 hcM
    rw [HS0.out] at hcb
    obtain ⟨hcs, hfs⟩ := HS2.out.s s hs2
    obtain ⟨old, hold⟩ : ∃ x, sa s = x := ⟨_, rfl⟩
    rw [hold] at hcs
    clear hold
    have hcM' : (c1 : Int) < (256 : Int) := by omega
    have hs' : (s : Int) < (n : Int) := by omega
    go_wp2
    clear hcb hfb hcs hfs
    go_loopw [11, 12, 13] (fun cBs bs is wr => ∃ (i cB : Nat) (bv : Int) (sa bk : Nat → Int), i ≤ n ∧ is = .int .i64 i ∧ cBs = .int .u8 cB ∧ bs = .int .i32 bv ∧ cB < 256 ∧ SubL T n lo 256 (k1 T n) (e1 T n) i sa (ptr bk cB bv) ∧ St .u8 T n 256 tb tx sb so fb fo fm bb bo fv wr sa bk ∧ Kp n 256 sb so fb fo fm bb bo w wr) (fun _ _ is _ => n - (intOf is).toNat)
    case atStart =>
      have h2 : SubL T n lo 256 (k1 T n) (e1 T n) 0 (upd sa s kv) (ptr g1 c1 ((s : Int) + 1)) := by
        have h1 := HI.out
        rw [ptr_bump_here, ← HS0.out, ptr_self, HKV.out]
        rw [show (((n - 1 : Nat) : Nat) : Int) = (n : Int) - 1 by omega] at h1
        exact h1
      exact ⟨0, c1, _, _, _, by omega, rfl, rfl, rfl, hcM, h2, HS2.out.setS HL.out hs2 _, HK2.out.setS hs2 _⟩
    case round =>
      clear HI HS0 HS2 HK2 HKV hkv0 hkv1
      obtain ⟨i, cB, bv, sa, bk, hi, rfl, rfl, rfl, hcB, hI, hSt, hKp⟩ := hrel
      by_cases hlt : i < n
      · obtain ⟨hci, hfi⟩ := hSt.s i hlt
        obtain ⟨jv, hjv⟩ : ∃ x, sa i = x := ⟨_, rfl⟩
        rw [hjv] at hci
        have hlt' : (i : Int) < (n : Int) := by omega
        by_cases z0 : jv = 0
        · subst z0
          have HI := Lib.hid (hI.skip (keys_one HFi.out.lms) hlt hjv)
          have HS' := Lib.hid (hSt)
          have HK' := Lib.hid (hKp)
          clear hI hSt hKp hjv
          go_wp2
          go_roundw
          case rel => exact ⟨i + 1, cB, bv, _, bk, by omega, by go_num, rfl, rfl, hcB, HI.out, HS'.out, HK'.out⟩
          case measure => simp [intOf]; omega
        · have z0' : (jv == 0) = false := beq_eq_false_iff_ne.2 z0
          by_cases z1 : jv < 0
          · have hfl := hI.flip (keys_one HFi.out.lms) hlt (by omega)
            rw [hjv] at hfl
            have hb := hfl.1
            have HI := Lib.hid (hfl.2)
            have HS' := Lib.hid (hSt.setS HL.out hlt (- jv))
            have HK' := Lib.hid (hKp.setS hlt (.int .i32 (- jv)))
            clear hI hSt hKp hjv hfl
            go_wp2
            go_roundw
            case rel => exact ⟨i + 1, cB, bv, _, bk, by omega, by go_num, rfl, rfl, hcB, HI.out, HS'.out, HK'.out⟩
            case measure => simp [intOf]; omega
          · obtain ⟨kk, s, hk1, hk2, hk3, hk4, hs1, hs2, hs3, hI'⟩ := hI.work (keys_one HFi.out.lms) HL.out.hT HFi.out.lms hlt (by omega)
            have hpb : 0 ≤ bv ∧ bv ≤ n := by
              have h1 := hI.p cB hcB
              rw [ptr_here] at h1
              have a1 := start_split (T := T) (n := n) cB
              have a2 := start_le (T := T) (n := n) (cB + 1)
              have a3 : cL T n lo (k1 T n) (e1 T n) i cB ≤ cnt (fun i => T i = cB) n := cnt_mono fun q _ hq => hq.1.2
              omega
            obtain ⟨hp0, hp1⟩ := hpb
            rw [hjv] at hk1
            subst hk1
            have hSt1 := hSt.setS HL.out hlt (0)
            have hKp1 := hKp.setS hlt (.int .i32 (0))
            have hcu1 : (wr.setCell ⟨sb, so + i, none⟩ (.int .i32 (0))).cell? ⟨tb, tx + kk, none⟩ = some (.int .u8 (T kk : Int)) := hSt1.t kk hk3
            obtain ⟨c1, hc1⟩ : ∃ c, T kk = c := ⟨_, rfl⟩
            rw [hc1] at hcu1 hk4 hs1 hI'
            obtain ⟨c0, hc0⟩ : ∃ c, T (kk - 1) = c := ⟨_, rfl⟩
            rw [hc0] at hI'
            have hcu2 : 1 ≤ kk → (wr.setCell ⟨sb, so + i, none⟩ (.int .i32 (0))).cell? ⟨tb, tx + (kk - 1), none⟩ = some (.int .u8 (c0 : Int)) := fun h => by rw [← hc0]; exact hSt1.t (kk - 1) (by omega)
            obtain ⟨old, hold⟩ : ∃ y, (upd sa i (0)) s = y := ⟨_, rfl⟩
            have hk3' : (kk : Int) < (n : Int) := by omega
            have hs3' : (s : Int) < (n : Int) := by omega
            have hcM' : (c1 : Int) < (256 : Int) := by omega
            have hcB' : (cB : Int) < (256 : Int) := by omega
            have HQ1 := Lib.hid hSt1
            have HQ2 := Lib.hid hKp1
            have HQ3 := Lib.hid hold
            have HQ4 := Lib.hid hI'
            have HQ5 := Lib.hid hs1
            have HQ6 := Lib.hid hcu2
            clear hI hI' hSt hSt1 hKp hKp1 hc1 hc0 hold hjv hs1 hcu2
            have hcu2 := HQ6.out hk2
            have y1 : ((kk : Int) - 1).toNat = kk - 1 := by omega
            have y2 : (0 : Int) ≤ (kk : Int) - 1 := by omega
            have y3 : (kk : Int) - 1 < (n : Int) := by omega
            go_wp2
            go_quiet (fail)
            clear hcu1 hcu2 HQ6 hci hfi
            generalize hwq : (wr.setCell ⟨sb, so + i, none⟩ (.int .i32 (0))).drewN _ = wq
            obtain ⟨nq, hwr⟩ : ∃ m, (wr.setCell ⟨sb, so + i, none⟩ (.int .i32 (0))).drewN m = wq := ⟨_, hwq⟩
            clear hwq
            have HR1 : Hid (St .u8 T n 256 tb tx sb so fb fo fm bb bo fv wq (upd sa i (0)) bk) := by subst hwr; exact HQ1.out.drewN nq
            have HR2 : Hid (Kp n 256 sb so fb fo fm bb bo w wq) := by subst hwr; exact HQ2.out.drewN nq
            clear hwr HQ1 HQ2
            go_upto_if 90 with fail
            go_cut [15] (fun ks wx => ∃ kv : Int, ks = .int .i64 kv ∧ wx = wq ∧ Hid (kv = if c0 < c1 then -(kk : Int) else (kk : Int)) ∧ -(n : Int) < kv ∧ kv < (n : Int))
            case first =>
              by_cases hm : c0 < c1
              · go_wp2
                go_meet
                exact ⟨_, rfl, rfl, (show Hid _ from (if_pos hm).symm), by omega, by omega⟩
              · go_wp2
                go_meet
                exact ⟨_, rfl, rfl, (show Hid _ from (if_neg hm).symm), by omega, by omega⟩
            case rest =>
              obtain ⟨kv, rfl, rfl, HKV, hkv0, hkv1⟩ := hcut
              clear y1 y2 y3
              go_upto_if 95 with fail
              go_cut [11, 12] (fun cbs bs wx => ∃ bk2 : Nat → Int, cbs = .int .u8 c1 ∧ bs = .int .i32 (s : Int) ∧ Hid (∀ z : Int, ptr bk2 c1 ((s : Int) + 1) = bump (ptr bk cB bv) c1) ∧ Hid (St .u8 T n 256 tb tx sb so fb fo fm bb bo fv wx (upd sa i (0)) bk2) ∧ Hid (Kp n 256 sb so fb fo fm bb bo w wx))
              case first =>
                by_cases e : cB = c1
                · subst e
                  have hs1 := HQ5.out
                  rw [ptr_here] at hs1
                  subst hs1
                  have e' : ((cB : Int) != (cB : Int)) = false := by simp
                  go_wp2
                  go_meet
                  exact ⟨bk, rfl, rfl, (show Hid _ from fun _ => ptr_bump_here _ _ _), HR1, HR2⟩
                · have hs1 := HQ5.out
                  rw [ptr_there _ _ (fun h => e h.symm)] at hs1
                  obtain ⟨hcp, hfp⟩ := HR1.out.b cB hcB
                  obtain ⟨oldp, holdp⟩ : ∃ y, bk cB = y := ⟨_, rfl⟩
                  rw [holdp] at hcp
                  have hSt2 := HR1.out.setB HL.out hcB bv
                  obtain ⟨hcq, hfq⟩ := hSt2.b c1 hk4
                  rw [upd_other _ _ (fun h => e h.symm), hs1] at hcq
                  have HS2 := Lib.hid hSt2
                  have HK2 := Lib.hid (HR2.out.setB hcB (.int .i32 bv))
                  have HP := Lib.hid (show ∀ z : Int, ptr (upd bk cB bv) c1 ((s : Int) + 1) = bump (ptr bk cB bv) c1 from fun _ => by rw [← hs1]; exact ptr_bump_there _ _ (fun h => e h.symm))
                  have e' : ((cB : Int) != (c1 : Int)) = true := by simp; omega
                  clear hs1 holdp hSt2 hfq
                  go_wp2
                  go_meet
                  exact ⟨_, rfl, rfl, HP, HS2, HK2⟩
              case rest =>
                obtain ⟨bk2, rfl, rfl, HP, HS2, HK2⟩ := hcut
                obtain ⟨hcs, hfs⟩ := HS2.out.s s hs3
                rw [HQ3.out] at hcs
                have HS' := Lib.hid (HS2.out.setS HL.out hs3 kv)
                have HK' := Lib.hid (HK2.out.setS hs3 (.int .i32 kv))
                have HI := HQ4
                clear HQ3 HQ4 HQ5 HS2 HK2 HR1 HR2
                go_wp2
                go_roundw
                case rel => exact ⟨i + 1, c1, _, _, bk2, by omega, by go_num, rfl, rfl, hk4, by have h1 := HI.out; rw [← HKV.out, ← HP.out 0] at h1; exact h1, HS'.out, HK'.out⟩
                case measure => simp [intOf]; omega
      · obtain rfl : i = n := by omega
        have HI := Lib.hid hI
        have HS' := Lib.hid hSt
        have HK' := Lib.hid hKp
        clear hI hSt hKp
        go_wp2
        go_end0
        exact SPost.mk rfl HS'.out HK'.out ⟨_, HI.out⟩

end Go.Proofs.YtoebcbmkkhbldaaDoor

/- The walks over a scan. -/
set_option linter.unusedVariables false
namespace Go.Proofs.YtoebcbmkkhbldaaDoor
open Go.RowKit Go.Mem Sais
set_option maxRecDepth 100000


set_option maxHeartbeats 8000000 in
theorem induceSubS_8_32 (T : Nat → Nat) (n tb tx tc sb so sc fb fo fm bb bo bc : Nat) (fv : Value) (sa g : Nat → Int) (w : World) (L : Lay T n 256 tb tx sb so fb fo fm bb bo) (hbc : 256 ≤ bc) (H : St .u8 T n 256 tb tx sb so fb fo fm bb bo fv w sa g) (lo : Nat) (F : First T n lo) (P0 : Nat → Int) (hLd : SubL T n lo 256 (k1 T n) (e1 T n) n sa P0) :
    Calls Tryd.prog 37 #[.slice (some ⟨tb, tx, none⟩) n tc, .slice (some ⟨sb, so, none⟩) n sc, fv, .slice (some ⟨bb, bo, none⟩) 256 bc] w
      (SPost .u8 T n 256 tb tx sb so fb fo fm bb bo fv w (.tuple #[]) fun sa' => Top T n sa') := by
  have hcall := bucketMax_8_32 T n L.hT L.hn tb tx tc fb fo fm bb bo bc fv g w hbc H.t H.f H.b L.tf L.tp L.fp
  have HC := Lib.hid hcall; clear hcall
  have HL := Lib.hid L; clear L
  have HH := Lib.hid H; clear H
  have HLD := Lib.hid hLd; clear hLd
  have hn2 : 2 ≤ n := by have h1 := F.lms.1; have h2 := F.lms.2.1; omega
  have HFi := Lib.hid F; clear F
  have hn := HL.out.hn
  have hM0 := HL.out.M0
  go_enter Tryd.func37, Tryd.ntmps37
  go_wp2_with (go_at_call 59; refine HC.out.mono ?_; rintro e w1 ⟨rfl, g1, hg1, hb1, hf1, hk1⟩; have HG := Lib.hid hg1; have HS1 := Lib.hid (HH.out.after HL.out hk1 hb1 hf1); have HK1 := Lib.hid (Kp.of_two (n := n) (sb := sb) (so := so) hk1); clear hg1 hb1 hf1 hk1; obtain ⟨hcb, hfb⟩ := HS1.out.b 0 hM0; simp only [Nat.add_zero] at hcb hfb; obtain ⟨b0, hb0⟩ : ∃ x, g1 0 = x := ⟨_, rfl⟩; rw [hb0] at hcb; have HB0 := Lib.hid hb0; clear hb0)
  have HI := Lib.hid (SubS.init (keys_one HFi.out.lms) HFi.out HLD.out HG.out)
  clear HC HH HLD HG hcb hfb
  go_loopw [8, 9, 10, 11] (fun cBs bs tps is wr => ∃ (i cB top : Nat) (q bv : Int) (sa bk : Nat → Int), i ≤ n ∧ q = (i : Int) - 1 ∧ is = .int .i64 q ∧ cBs = .int .u8 cB ∧ bs = .int .i32 bv ∧ tps = .int .i64 top ∧ cB < 256 ∧ SubS T n lo 256 (k1 T n) i sa (ptr bk cB bv) top ∧ St .u8 T n 256 tb tx sb so fb fo fm bb bo fv wr sa bk ∧ Kp n 256 sb so fb fo fm bb bo w wr) (fun _ _ _ is _ => (intOf is + 1).toNat)
  case atStart => exact ⟨n, 0, n, _, _, _, _, Nat.le_refl _, rfl, rfl, rfl, rfl, rfl, hM0, by rw [← HB0.out, ptr_self]; exact HI.out, HS1.out, HK1.out⟩
  case round =>
    clear HI HB0 HS1 HK1
    obtain ⟨i, cB, top, q, bv, sa, bk, hi, hq, rfl, rfl, rfl, rfl, hcB, hI, hSt, hKp⟩ := hrel
    by_cases hi0 : i = 0
    · subst hi0
      obtain rfl : q = -1 := by omega
      have HI := Lib.hid hI
      have HS' := Lib.hid hSt
      have HK' := Lib.hid hKp
      clear hI hSt hKp hq
      go_wp2
      go_end0
      exact SPost.mk rfl HS'.out HK'.out (SubS.final HFi.out HI.out)
    · obtain ⟨x, rfl⟩ : ∃ x, i = x + 1 := ⟨i - 1, by omega⟩
      obtain rfl : q = (x : Int) := by omega
      clear hq hi0
      have hlt : x < n := by omega
      obtain ⟨hci, hfi⟩ := hSt.s x hlt
      obtain ⟨jv, hjv⟩ : ∃ y, sa x = y := ⟨_, rfl⟩
      rw [hjv] at hci
      have hlt' : (x : Int) < (n : Int) := by omega
      by_cases z0 : jv = 0
      · subst z0
        have HI := Lib.hid (hI.skip (keys_one HFi.out.lms) HFi.out hjv)
        have HS' := Lib.hid (hSt)
        have HK' := Lib.hid (hKp)
        clear hI hSt hKp hjv
        go_wp2
        go_roundw
        case rel => exact ⟨x, cB, top, _, bv, _, bk, by omega, rfl, rfl, rfl, rfl, rfl, hcB, HI.out, HS'.out, HK'.out⟩
        case measure => simp [intOf]
      · have z0' : (jv == 0) = false := beq_eq_false_iff_ne.2 z0
        by_cases z1 : jv < 0
        · have hfl := hI.neg (keys_one HFi.out.lms) HFi.out (by omega)
          rw [hjv] at hfl
          obtain ⟨hb, ht1, ht2, hI2⟩ := hfl
          have hSt1 := hSt.setS HL.out hlt 0
          have hKp1 := hKp.setS hlt (.int .i32 0)
          obtain ⟨hct, hft⟩ := hSt1.s (top - 1) (by omega)
          obtain ⟨old, hold⟩ : ∃ y, upd sa x 0 (top - 1) = y := ⟨_, rfl⟩
          rw [hold] at hct
          have y1 : ((top : Int) - 1).toNat = top - 1 := by omega
          have y2 : (0 : Int) ≤ (top : Int) - 1 := by omega
          have y3 : (top : Int) - 1 < (n : Int) := by omega
          have HI := Lib.hid hI2
          have HS' := Lib.hid (hSt1.setS HL.out (show top - 1 < n by omega) (- jv))
          have HK' := Lib.hid (hKp1.setS (show top - 1 < n by omega) (.int .i32 (- jv)))
          clear hI hI2 hSt hSt1 hKp hKp1 hjv hold
          go_wp2
          go_roundw
          case rel => exact ⟨x, cB, top - 1, _, bv, _, bk, by omega, rfl, rfl, rfl, rfl, congrArg (Value.int .i64) (show (top : Int) - 1 = ((top - 1 : Nat) : Int) by omega), hcB, HI.out, HS'.out, HK'.out⟩
          case measure => simp [intOf]
        · obtain ⟨kk, s, hk1, hk2, hk3, hk4, hs1, hs2, hI'⟩ := hI.work (keys_one HFi.out.lms) HL.out.hT HFi.out (by omega)
          have hpb : 0 ≤ bv ∧ bv ≤ n := by
            have h1 := hI.p cB hcB
            rw [ptr_here] at h1
            have a1 := start_split (T := T) (n := n) cB
            have a2 := start_le (T := T) (n := n) (cB + 1)
            have a3 : cS T n lo (k1 T n) (x + 1) cB ≤ cnt (fun i => T i = cB) n := cnt_mono fun q _ hq => hq.1.2
            omega
          obtain ⟨hp0, hp1⟩ := hpb
          rw [hjv] at hk1
          subst hk1
          have hs3 : s < n := by omega
          have hSt1 := hSt.setS HL.out hlt (0)
          have hKp1 := hKp.setS hlt (.int .i32 (0))
          have hcu1 : (wr.setCell ⟨sb, so + x, none⟩ (.int .i32 (0))).cell? ⟨tb, tx + kk, none⟩ = some (.int .u8 (T kk : Int)) := hSt1.t kk hk3
          obtain ⟨c1, hc1⟩ : ∃ c, T kk = c := ⟨_, rfl⟩
          rw [hc1] at hcu1 hk4 hs1 hI'
          obtain ⟨c0, hc0⟩ : ∃ c, T (kk - 1) = c := ⟨_, rfl⟩
          rw [hc0] at hI'
          have hcu2 : 1 ≤ kk → (wr.setCell ⟨sb, so + x, none⟩ (.int .i32 (0))).cell? ⟨tb, tx + (kk - 1), none⟩ = some (.int .u8 (c0 : Int)) := fun h => by rw [← hc0]; exact hSt1.t (kk - 1) (by omega)
          obtain ⟨old, hold⟩ : ∃ y, (upd sa x (0)) s = y := ⟨_, rfl⟩
          have hk3' : (kk : Int) < (n : Int) := by omega
          have hs3' : (s : Int) < (n : Int) := by omega
          have hcM' : (c1 : Int) < (256 : Int) := by omega
          have hcB' : (cB : Int) < (256 : Int) := by omega
          have HQ1 := Lib.hid hSt1
          have HQ2 := Lib.hid hKp1
          have HQ3 := Lib.hid hold
          have HQ4 := Lib.hid hI'
          have HQ5 := Lib.hid hs1
          have HQ6 := Lib.hid hcu2
          clear hI hI' hSt hSt1 hKp hKp1 hc1 hc0 hold hjv hs1 hcu2
          have hcu2 := HQ6.out hk2
          have y1 : ((kk : Int) - 1).toNat = kk - 1 := by omega
          have y2 : (0 : Int) ≤ (kk : Int) - 1 := by omega
          have y3 : (kk : Int) - 1 < (n : Int) := by omega
          go_upto_if 68 with fail
          have HR1 := HQ1
          have HR2 := HQ2
          clear HQ1 HQ2
          go_cut [13] (fun ks wx => ∃ kv : Int, ks = .int .i64 kv ∧ wx = (wr.setCell ⟨sb, so + x, none⟩ (.int .i32 (0))) ∧ Hid (kv = if c1 < c0 then -(kk : Int) else (kk : Int)) ∧ -(n : Int) < kv ∧ kv < (n : Int))
          case first =>
            by_cases hm : c1 < c0
            · go_wp2
              go_meet
              exact ⟨_, rfl, rfl, (show Hid _ from (if_pos hm).symm), by omega, by omega⟩
            · go_wp2
              go_meet
              exact ⟨_, rfl, rfl, (show Hid _ from (if_neg hm).symm), by omega, by omega⟩
          case rest =>
            obtain ⟨kv, rfl, rfl, HKV, hkv0, hkv1⟩ := hcut
            clear y1 y2 y3
            go_upto_if 73 with fail
            go_cut [8, 9] (fun cbs bs wx => ∃ bk2 : Nat → Int, cbs = .int .u8 c1 ∧ bs = .int .i32 ((s : Int) + 1) ∧ Hid (∀ z : Int, ptr bk2 c1 (((s : Int) + 1) - 1) = drop1 (ptr bk cB bv) c1) ∧ Hid (St .u8 T n 256 tb tx sb so fb fo fm bb bo fv wx (upd sa x (0)) bk2) ∧ Hid (Kp n 256 sb so fb fo fm bb bo w wx))
            case first =>
              by_cases e : cB = c1
              · subst e
                have hs1 := HQ5.out
                rw [ptr_here] at hs1
                subst hs1
                have e' : ((cB : Int) != (cB : Int)) = false := by simp
                go_wp2
                go_meet
                exact ⟨bk, rfl, rfl, (show Hid _ from fun _ => ptr_drop_here _ _ _), HR1, HR2⟩
              · have hs1 := HQ5.out
                rw [ptr_there _ _ (fun h => e h.symm)] at hs1
                obtain ⟨hcp, hfp⟩ := HR1.out.b cB hcB
                obtain ⟨oldp, holdp⟩ : ∃ y, bk cB = y := ⟨_, rfl⟩
                rw [holdp] at hcp
                have hSt2 := HR1.out.setB HL.out hcB bv
                obtain ⟨hcq, hfq⟩ := hSt2.b c1 hk4
                rw [upd_other _ _ (fun h => e h.symm), hs1] at hcq
                have HS2 := Lib.hid hSt2
                have HK2 := Lib.hid (HR2.out.setB hcB (.int .i32 bv))
                have HP := Lib.hid (show ∀ z : Int, ptr (upd bk cB bv) c1 (((s : Int) + 1) - 1) = drop1 (ptr bk cB bv) c1 from fun _ => by rw [← hs1]; exact ptr_drop_there _ _ (fun h => e h.symm))
                have e' : ((cB : Int) != (c1 : Int)) = true := by simp; omega
                clear hs1 holdp hSt2 hfq
                go_wp2
                go_meet
                exact ⟨_, rfl, rfl, HP, HS2, HK2⟩
            case rest =>
              obtain ⟨bk2, rfl, rfl, HP, HS2, HK2⟩ := hcut
              obtain ⟨hcs, hfs⟩ := HS2.out.s s hs3
              rw [HQ3.out] at hcs
              have HS' := Lib.hid (HS2.out.setS HL.out hs3 kv)
              have HK' := Lib.hid (HK2.out.setS hs3 (.int .i32 kv))
              have HI := HQ4
              clear HQ3 HQ4 HQ5 HS2 HK2 HR1 HR2
              go_wp2
              go_roundw
              case rel => exact ⟨x, c1, top, _, _, _, bk2, by omega, rfl, rfl, rfl, rfl, rfl, hk4, by have h1 := HI.out; rw [← HKV.out, ← HP.out 0] at h1; exact (by rw [Int.add_sub_cancel] at h1; exact h1), HS'.out, HK'.out⟩
              case measure => simp [intOf]

end Go.Proofs.YtoebcbmkkhbldaaDoor

/- The walks over a scan. -/
set_option linter.unusedVariables false
namespace Go.Proofs.YtoebcbmkkhbldaaDoor
open Go.RowKit Go.Mem Sais
set_option maxRecDepth 100000


set_option maxHeartbeats 8000000 in
theorem induceL_8_32 (T : Nat → Nat) (n tb tx tc sb so sc fb fo fm bb bo bc : Nat) (fv : Value) (sa g : Nat → Int) (w : World) (L : Lay T n 256 tb tx sb so fb fo fm bb bo) (hbc : 256 ≤ bc) (H : St .u8 T n 256 tb tx sb so fb fo fm bb bo fv w sa g) (hn2 : 2 ≤ n) (hLd : Laid T n 0 (kfull T n) sa) :
    Calls Tryd.prog 44 #[.slice (some ⟨tb, tx, none⟩) n tc, .slice (some ⟨sb, so, none⟩) n sc, fv, .slice (some ⟨bb, bo, none⟩) 256 bc] w
      (SPost .u8 T n 256 tb tx sb so fb fo fm bb bo fv w (.tuple #[]) fun sa' => ∃ P, FinL T n 256 (kfull T n) (kfull T n) n sa' P) := by
  have hcall := bucketMin_8_32 T n L.hT L.hn tb tx tc fb fo fm bb bo bc fv g w hbc H.t H.f H.b L.tf L.tp L.fp
  have HC := Lib.hid hcall; clear hcall
  have HL := Lib.hid L; clear L
  have HH := Lib.hid H; clear H
  have HLD := Lib.hid hLd; clear hLd
  have hn := HL.out.hn
  have hM0 := HL.out.M0
  have x1 : ((n : Int) - 1).toNat = n - 1 := by omega
  have x2 : ((n : Int) - 1 - 1).toNat = n - 1 - 1 := by omega
  have x3 : (0 : Int) ≤ (n : Int) - 1 := by omega
  have x4 : (0 : Int) ≤ (n : Int) - 1 - 1 := by omega
  have x5 : (n : Int) - 1 < (n : Int) := by omega
  have x6 : (n : Int) - 1 - 1 < (n : Int) := by omega
  go_enter Tryd.func44, Tryd.ntmps44
  go_wp2_with (go_at_call 60; refine HC.out.mono ?_; rintro e w1 ⟨rfl, g1, hg1, hb1, hf1, hk1⟩; have HG := Lib.hid hg1; have HS1 := Lib.hid (HH.out.after HL.out hk1 hb1 hf1); have HK1 := Lib.hid (Kp.of_two (n := n) (sb := sb) (so := so) hk1); clear hg1 hb1 hf1 hk1)
  clear HC HH
  have hct1 : w1.cell? ⟨tb, tx + (n - 1), none⟩ = some (.int .u8 (T (n - 1) : Int)) := HS1.out.t (n - 1) (by omega)
  have hct2 : w1.cell? ⟨tb, tx + (n - 1 - 1), none⟩ = some (.int .u8 (T (n - 1 - 1) : Int)) := HS1.out.t (n - 1 - 1) (by omega)
  obtain ⟨s, hs1, hs2, hI⟩ := FinL.init (keys_full (by omega)) HL.out.hT hn2 HLD.out HG.out
  obtain ⟨c1, hc1⟩ : ∃ c, T (n - 1) = c := ⟨_, rfl⟩
  obtain ⟨c0, hc0⟩ : ∃ c, T (n - 1 - 1) = c := ⟨_, rfl⟩
  have hcM : c1 < 256 := by rw [← hc1]; exact HL.out.hT _ (by omega)
  rw [hc1] at hct1 hI hs1
  rw [hc0] at hct2 hI
  have HI := Lib.hid hI; clear hI
  have HS0 := Lib.hid hs1; clear hs1 HLD HG hc1 hc0
  go_quiet (fail)
  clear hct1 hct2
  generalize hwq : w1.drewN _ = wq
  obtain ⟨nq, hwr⟩ : ∃ m, w1.drewN m = wq := ⟨_, hwq⟩
  clear hwq
  have HS2 : Hid (St .u8 T n 256 tb tx sb so fb fo fm bb bo fv wq sa g1) := by subst hwr; exact HS1.out.drewN nq
  have HK2 : Hid (Kp n 256 sb so fb fo fm bb bo w wq) := by subst hwr; exact HK1.out.drewN nq
  clear hwr HS1 HK1
  go_upto_if 38 with fail
  go_cut [8] (fun ks wx => ∃ kv : Int, ks = .int .i64 kv ∧ wx = wq ∧ Hid (kv = if c0 < c1 then -((n : Int) - 1) else (n : Int) - 1) ∧ -(n : Int) < kv ∧ kv < (n : Int))
  case first =>
    by_cases hlt0 : c0 < c1
    · go_wp2
      go_meet
      exact ⟨_, rfl, rfl, (show Hid _ from (if_pos hlt0).symm), by omega, by omega⟩
    · go_wp2
      go_meet
      exact ⟨_, rfl, rfl, (show Hid _ from (if_neg hlt0).symm), by omega, by omega⟩
  case rest =>
    obtain ⟨kv, rfl, rfl, HKV, hkv0, hkv1⟩ := hcut
    clear x1 x2 x3 x4 x5 x6
    obtain ⟨hcb, hfb⟩ := HS2.out.b c1 hcM
    rw [HS0.out] at hcb
    obtain ⟨hcs, hfs⟩ := HS2.out.s s hs2
    obtain ⟨old, hold⟩ : ∃ x, sa s = x := ⟨_, rfl⟩
    rw [hold] at hcs
    clear hold
    have hcM' : (c1 : Int) < (256 : Int) := by omega
    have hs' : (s : Int) < (n : Int) := by omega
    go_wp2
    clear hcb hfb hcs hfs
    go_loopw [11, 12, 13] (fun cBs bs is wr => ∃ (i cB : Nat) (bv : Int) (sa bk : Nat → Int), i ≤ n ∧ is = .int .i64 i ∧ cBs = .int .u8 cB ∧ bs = .int .i32 bv ∧ cB < 256 ∧ FinL T n 256 (kfull T n) (kfull T n) i sa (ptr bk cB bv) ∧ St .u8 T n 256 tb tx sb so fb fo fm bb bo fv wr sa bk ∧ Kp n 256 sb so fb fo fm bb bo w wr) (fun _ _ is _ => n - (intOf is).toNat)
    case atStart =>
      have h2 : FinL T n 256 (kfull T n) (kfull T n) 0 (upd sa s kv) (ptr g1 c1 ((s : Int) + 1)) := by
        have h1 := HI.out
        rw [ptr_bump_here, ← HS0.out, ptr_self, HKV.out]
        rw [show (((n - 1 : Nat) : Nat) : Int) = (n : Int) - 1 by omega] at h1
        exact h1
      exact ⟨0, c1, _, _, _, by omega, rfl, rfl, rfl, hcM, h2, HS2.out.setS HL.out hs2 _, HK2.out.setS hs2 _⟩
    case round =>
      clear HI HS0 HS2 HK2 HKV hkv0 hkv1
      obtain ⟨i, cB, bv, sa, bk, hi, rfl, rfl, rfl, hcB, hI, hSt, hKp⟩ := hrel
      by_cases hlt : i < n
      · obtain ⟨hci, hfi⟩ := hSt.s i hlt
        obtain ⟨jv, hjv⟩ : ∃ x, sa i = x := ⟨_, rfl⟩
        rw [hjv] at hci
        have hlt' : (i : Int) < (n : Int) := by omega
        have hjb := hI.bd hlt
        rw [hjv] at hjb
        obtain ⟨hjb1, hjb2⟩ := hjb
        by_cases z0 : jv ≤ 0
        · have HI := Lib.hid (hI.skip (keys_full (by omega)) hlt (by omega))
          have HS' := Lib.hid (hSt)
          have HK' := Lib.hid (hKp)
          clear hI hSt hKp hjv
          go_wp2
          go_roundw
          case rel => exact ⟨i + 1, cB, bv, _, bk, by omega, by go_num, rfl, rfl, hcB, HI.out, HS'.out, HK'.out⟩
          case measure => simp [intOf]; omega
        · obtain ⟨kk, s, hk1, hk3, hk4, hs1, hs2, hs3, hI'⟩ := hI.work (keys_full (by omega)) HL.out.hT hlt (by omega)
          have hpb : 0 ≤ bv ∧ bv ≤ n := by
            have h1 := hI.p cB hcB
            rw [ptr_here] at h1
            have a1 := start_split (T := T) (n := n) cB
            have a2 := start_le (T := T) (n := n) (cB + 1)
            have a3 : cL T n 0 (kfull T n) (kfull T n) i cB ≤ cnt (fun i => T i = cB) n := cnt_mono fun q _ hq => hq.1.2
            omega
          obtain ⟨hp0, hp1⟩ := hpb
          rw [hjv] at hk1
          subst hk1
          have hSt1 := hSt
          have hKp1 := hKp
          have hcu1 : wr.cell? ⟨tb, tx + kk, none⟩ = some (.int .u8 (T kk : Int)) := hSt1.t kk hk3
          obtain ⟨c1, hc1⟩ : ∃ c, T kk = c := ⟨_, rfl⟩
          rw [hc1] at hcu1 hk4 hs1 hI'
          obtain ⟨c0, hc0⟩ : ∃ c, T (kk - 1) = c := ⟨_, rfl⟩
          rw [hc0] at hI'
          have hcu2 : 1 ≤ kk → wr.cell? ⟨tb, tx + (kk - 1), none⟩ = some (.int .u8 (c0 : Int)) := fun h => by rw [← hc0]; exact hSt1.t (kk - 1) (by omega)
          obtain ⟨old, hold⟩ : ∃ y, sa s = y := ⟨_, rfl⟩
          have hk3' : (kk : Int) < (n : Int) := by omega
          have hs3' : (s : Int) < (n : Int) := by omega
          have hcM' : (c1 : Int) < (256 : Int) := by omega
          have hcB' : (cB : Int) < (256 : Int) := by omega
          have HQ1 := Lib.hid hSt1
          have HQ2 := Lib.hid hKp1
          have HQ3 := Lib.hid hold
          have HQ4 := Lib.hid hI'
          have HQ5 := Lib.hid hs1
          have HQ6 := Lib.hid hcu2
          clear hI hI' hSt hSt1 hKp hKp1 hc1 hc0 hold hjv hs1 hcu2
          go_upto_if 73 with fail
          generalize hdk : decide (0 < kk) = dk
          have HDK := Lib.hid hdk; clear hdk
          have HR1 := HQ1
          have HR2 := HQ2
          clear HQ1 HQ2
          go_cut [15] (fun ks wx => ∃ kv : Int, ks = .int .i64 kv ∧ wx = wr ∧ Hid (kv = if 0 < kk ∧ c0 < c1 then -(kk : Int) else (kk : Int)) ∧ -(n : Int) < kv ∧ kv < (n : Int))
          case first =>
            by_cases hk0 : kk = 0
            · obtain rfl : dk = false := by rw [← HDK.out]; exact decide_eq_false (by omega)
              have HK0 := Lib.hid hk0; clear hk0
              go_wp2
              go_meet
              exact ⟨_, rfl, rfl, (show Hid _ from (if_neg (fun h => by have := HK0.out; omega)).symm), by omega, by omega⟩
            · obtain rfl : dk = true := by rw [← HDK.out]; exact decide_eq_true (by omega)
              have hk2 : 1 ≤ kk := by omega
              have hcu2 := HQ6.out hk2
              have y1 : ((kk : Int) - 1).toNat = kk - 1 := by omega
              have y2 : (0 : Int) ≤ (kk : Int) - 1 := by omega
              have y3 : (kk : Int) - 1 < (n : Int) := by omega
              by_cases hm : c0 < c1
              · go_wp2
                go_meet
                exact ⟨_, rfl, rfl, (show Hid _ from (if_pos ⟨by omega, hm⟩).symm), by omega, by omega⟩
              · go_wp2
                go_meet
                exact ⟨_, rfl, rfl, (show Hid _ from (if_neg (fun h => hm h.2)).symm), by omega, by omega⟩
          case rest =>
            obtain ⟨kv, rfl, rfl, HKV, hkv0, hkv1⟩ := hcut
            clear HQ6 hcu1 HDK
            go_upto_if 86 with fail
            go_cut [11, 12] (fun cbs bs wx => ∃ bk2 : Nat → Int, cbs = .int .u8 c1 ∧ bs = .int .i32 (s : Int) ∧ Hid (∀ z : Int, ptr bk2 c1 ((s : Int) + 1) = bump (ptr bk cB bv) c1) ∧ Hid (St .u8 T n 256 tb tx sb so fb fo fm bb bo fv wx sa bk2) ∧ Hid (Kp n 256 sb so fb fo fm bb bo w wx))
            case first =>
              by_cases e : cB = c1
              · subst e
                have hs1 := HQ5.out
                rw [ptr_here] at hs1
                subst hs1
                have e' : ((cB : Int) != (cB : Int)) = false := by simp
                go_wp2
                go_meet
                exact ⟨bk, rfl, rfl, (show Hid _ from fun _ => ptr_bump_here _ _ _), HR1, HR2⟩
              · have hs1 := HQ5.out
                rw [ptr_there _ _ (fun h => e h.symm)] at hs1
                obtain ⟨hcp, hfp⟩ := HR1.out.b cB hcB
                obtain ⟨oldp, holdp⟩ : ∃ y, bk cB = y := ⟨_, rfl⟩
                rw [holdp] at hcp
                have hSt2 := HR1.out.setB HL.out hcB bv
                obtain ⟨hcq, hfq⟩ := hSt2.b c1 hk4
                rw [upd_other _ _ (fun h => e h.symm), hs1] at hcq
                have HS2 := Lib.hid hSt2
                have HK2 := Lib.hid (HR2.out.setB hcB (.int .i32 bv))
                have HP := Lib.hid (show ∀ z : Int, ptr (upd bk cB bv) c1 ((s : Int) + 1) = bump (ptr bk cB bv) c1 from fun _ => by rw [← hs1]; exact ptr_bump_there _ _ (fun h => e h.symm))
                have e' : ((cB : Int) != (c1 : Int)) = true := by simp; omega
                clear hs1 holdp hSt2 hfq
                go_wp2
                go_meet
                exact ⟨_, rfl, rfl, HP, HS2, HK2⟩
            case rest =>
              obtain ⟨bk2, rfl, rfl, HP, HS2, HK2⟩ := hcut
              obtain ⟨hcs, hfs⟩ := HS2.out.s s hs3
              rw [HQ3.out] at hcs
              have HS' := Lib.hid (HS2.out.setS HL.out hs3 kv)
              have HK' := Lib.hid (HK2.out.setS hs3 (.int .i32 kv))
              have HI := HQ4
              clear HQ3 HQ4 HQ5 HS2 HK2 HR1 HR2
              go_wp2
              go_roundw
              case rel => exact ⟨i + 1, c1, _, _, bk2, by omega, by go_num, rfl, rfl, hk4, by have h1 := HI.out; rw [← HKV.out, ← HP.out 0] at h1; exact h1, HS'.out, HK'.out⟩
              case measure => simp [intOf]; omega
      · obtain rfl : i = n := by omega
        have HI := Lib.hid hI
        have HS' := Lib.hid hSt
        have HK' := Lib.hid hKp
        clear hI hSt hKp
        go_wp2
        go_end0
        exact SPost.mk rfl HS'.out HK'.out ⟨_, HI.out⟩

end Go.Proofs.YtoebcbmkkhbldaaDoor

/- The walks over a scan. -/
set_option linter.unusedVariables false
namespace Go.Proofs.YtoebcbmkkhbldaaDoor
open Go.RowKit Go.Mem Sais
set_option maxRecDepth 100000


set_option maxHeartbeats 8000000 in
theorem induceS_8_32 (T : Nat → Nat) (n tb tx tc sb so sc fb fo fm bb bo bc : Nat) (fv : Value) (sa g : Nat → Int) (w : World) (L : Lay T n 256 tb tx sb so fb fo fm bb bo) (hbc : 256 ≤ bc) (H : St .u8 T n 256 tb tx sb so fb fo fm bb bo fv w sa g) (hn2 : 2 ≤ n) (P0 : Nat → Int) (hLd : FinL T n 256 (kfull T n) (kfull T n) n sa P0) :
    Calls Tryd.prog 45 #[.slice (some ⟨tb, tx, none⟩) n tc, .slice (some ⟨sb, so, none⟩) n sc, fv, .slice (some ⟨bb, bo, none⟩) 256 bc] w
      (SPost .u8 T n 256 tb tx sb so fb fo fm bb bo fv w (.tuple #[]) fun sa' => IsSA T n sa') := by
  have hcall := bucketMax_8_32 T n L.hT L.hn tb tx tc fb fo fm bb bo bc fv g w hbc H.t H.f H.b L.tf L.tp L.fp
  have HC := Lib.hid hcall; clear hcall
  have HL := Lib.hid L; clear L
  have HH := Lib.hid H; clear H
  have HLD := Lib.hid hLd; clear hLd
  have hn := HL.out.hn
  have hM0 := HL.out.M0
  go_enter Tryd.func45, Tryd.ntmps45
  go_wp2_with (go_at_call 59; refine HC.out.mono ?_; rintro e w1 ⟨rfl, g1, hg1, hb1, hf1, hk1⟩; have HG := Lib.hid hg1; have HS1 := Lib.hid (HH.out.after HL.out hk1 hb1 hf1); have HK1 := Lib.hid (Kp.of_two (n := n) (sb := sb) (so := so) hk1); clear hg1 hb1 hf1 hk1; obtain ⟨hcb, hfb⟩ := HS1.out.b 0 hM0; simp only [Nat.add_zero] at hcb hfb; obtain ⟨b0, hb0⟩ : ∃ x, g1 0 = x := ⟨_, rfl⟩; rw [hb0] at hcb; have HB0 := Lib.hid hb0; clear hb0)
  have HI := Lib.hid (FinS.init (keys_full (by omega)) HLD.out HG.out)
  clear HC HH HLD HG hcb hfb
  go_loopw [8, 9, 10] (fun cBs bs is wr => ∃ (i cB : Nat) (q bv : Int) (sa bk : Nat → Int), i ≤ n ∧ q = (i : Int) - 1 ∧ is = .int .i64 q ∧ cBs = .int .u8 cB ∧ bs = .int .i32 bv ∧ cB < 256 ∧ FinS T n 256 (kfull T n) i sa (ptr bk cB bv) ∧ St .u8 T n 256 tb tx sb so fb fo fm bb bo fv wr sa bk ∧ Kp n 256 sb so fb fo fm bb bo w wr) (fun _ _ is _ => (intOf is + 1).toNat)
  case atStart => exact ⟨n, 0, _, _, _, _, Nat.le_refl _, rfl, rfl, rfl, rfl, hM0, by rw [← HB0.out, ptr_self]; exact HI.out, HS1.out, HK1.out⟩
  case round =>
    clear HI HB0 HS1 HK1
    obtain ⟨i, cB, q, bv, sa, bk, hi, hq, rfl, rfl, rfl, hcB, hI, hSt, hKp⟩ := hrel
    by_cases hi0 : i = 0
    · subst hi0
      obtain rfl : q = -1 := by omega
      have HI := Lib.hid hI
      have HS' := Lib.hid hSt
      have HK' := Lib.hid hKp
      clear hI hSt hKp hq
      go_wp2
      go_end0
      exact SPost.mk rfl HS'.out HK'.out (FinS.final (keys_full (by omega)) HI.out)
    · obtain ⟨x, rfl⟩ : ∃ x, i = x + 1 := ⟨i - 1, by omega⟩
      obtain rfl : q = (x : Int) := by omega
      clear hq hi0
      have hlt : x < n := by omega
      obtain ⟨hci, hfi⟩ := hSt.s x hlt
      obtain ⟨jv, hjv⟩ : ∃ y, sa x = y := ⟨_, rfl⟩
      rw [hjv] at hci
      have hlt' : (x : Int) < (n : Int) := by omega
      have hjb := hI.bd (keys_full (by omega)) hlt
      rw [hjv] at hjb
      obtain ⟨hjb1, hjb2⟩ := hjb
      by_cases z0 : 0 ≤ jv
      · have HI := Lib.hid (hI.skip (keys_full (by omega)) hlt (by omega))
        have HS' := Lib.hid (hSt)
        have HK' := Lib.hid (hKp)
        clear hI hSt hKp hjv
        go_wp2
        go_roundw
        case rel => exact ⟨x, cB, _, bv, _, bk, by omega, rfl, rfl, rfl, rfl, hcB, HI.out, HS'.out, HK'.out⟩
        case measure => simp [intOf]
      · obtain ⟨kk, s, hk1, hk3, hk4, hs1, hs2, hI'⟩ := hI.work (keys_full (by omega)) HL.out.hT hlt (by omega)
        have hpb : 0 ≤ bv ∧ bv ≤ n := by
          have h1 := hI.p cB hcB
          rw [ptr_here] at h1
          have a1 := start_split (T := T) (n := n) cB
          have a2 := start_le (T := T) (n := n) (cB + 1)
          have a3 : cS T n 0 (kfull T n) (x + 1) cB ≤ cnt (fun i => T i = cB) n := cnt_mono fun q _ hq => hq.1.2
          omega
        obtain ⟨hp0, hp1⟩ := hpb
        rw [hjv] at hk1
        subst hk1
        have hk3 : kk < n := by omega
        have hs3 : s < n := by omega
        have hSt1 := hSt.setS HL.out hlt ((kk : Int) + 1)
        have hKp1 := hKp.setS hlt (.int .i32 ((kk : Int) + 1))
        have hcu1 : (wr.setCell ⟨sb, so + x, none⟩ (.int .i32 ((kk : Int) + 1))).cell? ⟨tb, tx + kk, none⟩ = some (.int .u8 (T kk : Int)) := hSt1.t kk hk3
        obtain ⟨c1, hc1⟩ : ∃ c, T kk = c := ⟨_, rfl⟩
        rw [hc1] at hcu1 hk4 hs1 hI'
        obtain ⟨c0, hc0⟩ : ∃ c, T (kk - 1) = c := ⟨_, rfl⟩
        rw [hc0] at hI'
        have hcu2 : 1 ≤ kk → (wr.setCell ⟨sb, so + x, none⟩ (.int .i32 ((kk : Int) + 1))).cell? ⟨tb, tx + (kk - 1), none⟩ = some (.int .u8 (c0 : Int)) := fun h => by rw [← hc0]; exact hSt1.t (kk - 1) (by omega)
        obtain ⟨old, hold⟩ : ∃ y, (upd sa x ((kk : Int) + 1)) s = y := ⟨_, rfl⟩
        have hk3' : (kk : Int) < (n : Int) := by omega
        have hs3' : (s : Int) < (n : Int) := by omega
        have hcM' : (c1 : Int) < (256 : Int) := by omega
        have hcB' : (cB : Int) < (256 : Int) := by omega
        have HQ1 := Lib.hid hSt1
        have HQ2 := Lib.hid hKp1
        have HQ3 := Lib.hid hold
        have HQ4 := Lib.hid hI'
        have HQ5 := Lib.hid hs1
        have HQ6 := Lib.hid hcu2
        clear hI hI' hSt hSt1 hKp hKp1 hc1 hc0 hold hjv hs1 hcu2
        go_upto_if 53 with fail
        generalize hdk : decide (0 < kk) = dk
        have HDK := Lib.hid hdk; clear hdk
        have HR1 := HQ1
        have HR2 := HQ2
        clear HQ1 HQ2
        go_cut [12] (fun ks wx => ∃ kv : Int, ks = .int .i64 kv ∧ wx = (wr.setCell ⟨sb, so + x, none⟩ (.int .i32 ((kk : Int) + 1))) ∧ Hid (kv = if 0 < kk ∧ c0 ≤ c1 then -(kk : Int) else (kk : Int)) ∧ -(n : Int) < kv ∧ kv < (n : Int))
        case first =>
          by_cases hk0 : kk = 0
          · obtain rfl : dk = false := by rw [← HDK.out]; exact decide_eq_false (by omega)
            have HK0 := Lib.hid hk0; clear hk0
            go_wp2
            go_meet
            exact ⟨_, rfl, rfl, (show Hid _ from (if_neg (fun h => by have := HK0.out; omega)).symm), by omega, by omega⟩
          · obtain rfl : dk = true := by rw [← HDK.out]; exact decide_eq_true (by omega)
            have hk2 : 1 ≤ kk := by omega
            have hcu2 := HQ6.out hk2
            have y1 : ((kk : Int) - 1).toNat = kk - 1 := by omega
            have y2 : (0 : Int) ≤ (kk : Int) - 1 := by omega
            have y3 : (kk : Int) - 1 < (n : Int) := by omega
            by_cases hm : c0 ≤ c1
            · go_wp2
              go_meet
              exact ⟨_, rfl, rfl, (show Hid _ from (if_pos ⟨by omega, hm⟩).symm), by omega, by omega⟩
            · go_wp2
              go_meet
              exact ⟨_, rfl, rfl, (show Hid _ from (if_neg (fun h => hm h.2)).symm), by omega, by omega⟩
        case rest =>
          obtain ⟨kv, rfl, rfl, HKV, hkv0, hkv1⟩ := hcut
          clear HQ6 hcu1 HDK
          go_upto_if 66 with fail
          go_cut [8, 9] (fun cbs bs wx => ∃ bk2 : Nat → Int, cbs = .int .u8 c1 ∧ bs = .int .i32 ((s : Int) + 1) ∧ Hid (∀ z : Int, ptr bk2 c1 (((s : Int) + 1) - 1) = drop1 (ptr bk cB bv) c1) ∧ Hid (St .u8 T n 256 tb tx sb so fb fo fm bb bo fv wx (upd sa x ((kk : Int) + 1)) bk2) ∧ Hid (Kp n 256 sb so fb fo fm bb bo w wx))
          case first =>
            by_cases e : cB = c1
            · subst e
              have hs1 := HQ5.out
              rw [ptr_here] at hs1
              subst hs1
              have e' : ((cB : Int) != (cB : Int)) = false := by simp
              go_wp2
              go_meet
              exact ⟨bk, rfl, rfl, (show Hid _ from fun _ => ptr_drop_here _ _ _), HR1, HR2⟩
            · have hs1 := HQ5.out
              rw [ptr_there _ _ (fun h => e h.symm)] at hs1
              obtain ⟨hcp, hfp⟩ := HR1.out.b cB hcB
              obtain ⟨oldp, holdp⟩ : ∃ y, bk cB = y := ⟨_, rfl⟩
              rw [holdp] at hcp
              have hSt2 := HR1.out.setB HL.out hcB bv
              obtain ⟨hcq, hfq⟩ := hSt2.b c1 hk4
              rw [upd_other _ _ (fun h => e h.symm), hs1] at hcq
              have HS2 := Lib.hid hSt2
              have HK2 := Lib.hid (HR2.out.setB hcB (.int .i32 bv))
              have HP := Lib.hid (show ∀ z : Int, ptr (upd bk cB bv) c1 (((s : Int) + 1) - 1) = drop1 (ptr bk cB bv) c1 from fun _ => by rw [← hs1]; exact ptr_drop_there _ _ (fun h => e h.symm))
              have e' : ((cB : Int) != (c1 : Int)) = true := by simp; omega
              clear hs1 holdp hSt2 hfq
              go_wp2
              go_meet
              exact ⟨_, rfl, rfl, HP, HS2, HK2⟩
          case rest =>
            obtain ⟨bk2, rfl, rfl, HP, HS2, HK2⟩ := hcut
            obtain ⟨hcs, hfs⟩ := HS2.out.s s hs3
            rw [HQ3.out] at hcs
            have HS' := Lib.hid (HS2.out.setS HL.out hs3 kv)
            have HK' := Lib.hid (HK2.out.setS hs3 (.int .i32 kv))
            have HI := HQ4
            clear HQ3 HQ4 HQ5 HS2 HK2 HR1 HR2
            go_wp2
            go_roundw
            case rel => exact ⟨x, c1, _, _, _, bk2, by omega, rfl, rfl, rfl, rfl, hk4, by have h1 := HI.out; rw [← HKV.out, ← HP.out 0] at h1; exact (by rw [Int.add_sub_cancel] at h1; exact h1), HS'.out, HK'.out⟩
            case measure => simp [intOf]

end Go.Proofs.YtoebcbmkkhbldaaDoor

/- The walks over expand. -/
set_option linter.unusedVariables false
namespace Go.Proofs.YtoebcbmkkhbldaaDoor
open Go.RowKit Go.Mem Sais
set_option maxRecDepth 100000


set_option maxHeartbeats 8000000 in
theorem expand_8_32 (T : Nat → Nat) (n tb tx tc sb so sc fb fo fm bb bo bc : Nat) (fv : Value) (sa g : Nat → Int) (w : World) (L : Lay T n 256 tb tx sb so fb fo fm bb bo) (hbc : 256 ≤ bc) (H : St .u8 T n 256 tb tx sb so fb fo fm bb bo fv w sa g) (hsr : Srt T n sa) (hm0 : 0 < nLMS T n) :
    Calls Tryd.prog 43 #[.slice (some ⟨tb, tx, none⟩) n tc, fv, .slice (some ⟨bb, bo, none⟩) 256 bc, .slice (some ⟨sb, so, none⟩) n sc, .int .i64 (nLMS T n : Nat)] w
      (SPost .u8 T n 256 tb tx sb so fb fo fm bb bo fv w (.tuple #[]) fun sa' => Laid T n 0 (kfull T n) sa') := by
  have hcall := bucketMax_8_32 T n L.hT L.hn tb tx tc fb fo fm bb bo bc fv g w hbc H.t H.f H.b L.tf L.tp L.fp
  have HC := Lib.hid hcall; clear hcall
  have HL := Lib.hid L; clear L
  have HH := Lib.hid H; clear H
  have hmn : nLMS T n ≤ n := cnt_le _ _
  obtain ⟨p0, hp0, hsx⟩ := hsr.val (nLMS T n - 1) (by omega)
  have HSR := Lib.hid hsr; clear hsr
  have hn := HL.out.hn
  have hp0n := hp0.2.1
  have hq0 := Lib.hid hp0; clear hp0
  have HSX := Lib.hid hsx; clear hsx
  obtain ⟨m, hmm⟩ : ∃ m, nLMS T n = m := ⟨_, rfl⟩
  rw [hmm] at hm0 hmn HSX ⊢
  have HMM := Lib.hid hmm; clear hmm
  have x1 : ((m : Int) - 1).toNat = m - 1 := by omega
  have x3 : (0 : Int) ≤ (m : Int) - 1 := by omega
  have x5 : (m : Int) - 1 < (n : Int) := by omega
  have x6 : (p0 : Int) < (n : Int) := by omega
  go_enter Tryd.func43, Tryd.ntmps43
  go_wp2_with (go_at_call 59; refine HC.out.mono ?_; rintro e w1 ⟨rfl, g1, hg1, hb1, hf1, hk1⟩; obtain ⟨b, hPb, hbn, hE⟩ := Exp.init HL.out.hT HSR.out (by rw [HMM.out]; exact hm0) hg1 hq0.out (by rw [HMM.out]; exact HSX.out); have HE := Lib.hid hE; have hSt := HH.out.after HL.out hk1 hb1 hf1; have hKp := Kp.of_two (n := n) (sb := sb) (so := so) hk1; have hcM := HL.out.hT _ hp0n; obtain ⟨hcx, hfx⟩ := hSt.s (m - 1) (by omega); rw [HSX.out] at hcx; have hct : w1.cell? ⟨tb, tx + p0, none⟩ = some (.int .u8 (T p0 : Int)) := hSt.t p0 hp0n; obtain ⟨hcb, hfb⟩ := hSt.b (T p0) hcM; rw [hPb] at hcb; have hSt2 := hSt.setB HL.out hcM (g1 (T p0) - 1); have hKp2 := hKp.setB hcM (.int .i32 (g1 (T p0) - 1)); rw [drop1_upd] at hSt2; rw [hPb, Int.add_sub_cancel] at hSt2 hKp2; have HS1 := Lib.hid hSt2; have HK1 := Lib.hid hKp2; clear hg1 hb1 hf1 hk1 hSt hSt2 hKp hKp2 hE hPb; generalize T p0 = c at hcM hct hcb hfb HS1 HK1 HE; have hcM' : (c : Int) < (256 : Int) := by omega)
  clear HC HH x1 x3 x5 x6 hcx hfx hct hcb hfb
  go_loopw [10, 11, 13, 14] (fun xs ps bs is wr => ∃ (i x p b : Nat) (q xv : Int) (sa' P : Nat → Int), i ≤ n ∧ q = (i : Int) - 1 ∧ xv = (x : Int) ∧ is = .int .i64 q ∧ xs = .int .i64 xv ∧ ps = .int .i32 p ∧ bs = .int .i32 b ∧ b < n ∧ p < n ∧ Exp T n 256 sa i sa' P x p b ∧ St .u8 T n 256 tb tx sb so fb fo fm bb bo fv wr sa' P ∧ Kp n 256 sb so fb fo fm bb bo w wr) (fun _ _ _ is _ => (intOf is + 1).toNat)
  case atStart =>
    have hE := HE.out
    rw [HMM.out] at hE
    exact ⟨n, m - 1, p0, b, _, _, _, _, Nat.le_refl _, rfl, by omega, rfl, rfl, rfl, rfl, hbn, hp0n, hE, HS1.out, HK1.out⟩
  case round =>
    clear HE HS1 HK1 HSX hq0 hbn hp0n hcM hcM'
    obtain ⟨i, x, p, b, q, xv, sa', P, hi, hq, hxv, rfl, rfl, rfl, rfl, hbn, hpn, hE, hSt, hKp⟩ := hrel
    by_cases hi0 : i = 0
    · subst hi0
      obtain rfl : q = -1 := by omega
      have HE := Lib.hid hE
      have HS' := Lib.hid hSt
      have HK' := Lib.hid hKp
      clear hE hSt hKp hq hxv
      go_wp2
      go_end0
      exact SPost.mk rfl HS'.out HK'.out (Exp.final HE.out)
    · obtain ⟨y, rfl⟩ : ∃ y, i = y + 1 := ⟨i - 1, by omega⟩
      obtain rfl : q = (y : Int) := by omega
      clear hq hi0
      have hlt : y < n := by omega
      have hlt' : (y : Int) < (n : Int) := by omega
      have hb' : (b : Int) < (n : Int) := by omega
      obtain ⟨hci, hfi⟩ := hSt.s y hlt
      obtain ⟨old, hold⟩ : ∃ z, sa' y = z := ⟨_, rfl⟩
      rw [hold] at hci
      clear hold
      by_cases hyb : y = b
      · have hne : ((y : Int) != (b : Int)) = false := by simp; omega
        have HYB := Lib.hid hyb; clear hyb
        by_cases hx0 : x = 0
        · subst hx0
          obtain rfl : xv = 0 := by omega
          have HE := Lib.hid (hE.last HSR.out HYB.out)
          have HS' := Lib.hid (hSt.setS HL.out hlt (p : Int))
          have HK' := Lib.hid (hKp.setS hlt (.int .i32 (p : Int)))
          clear hE hSt hKp hxv
          go_wp2
          go_roundw
          case rel => exact ⟨y, 0, p, b, _, _, _, _, by omega, rfl, rfl, rfl, rfl, rfl, rfl, hbn, hpn, HE.out, HS'.out, HK'.out⟩
          case measure => simp [intOf]
        · obtain ⟨z, rfl⟩ : ∃ z, x = z + 1 := ⟨x - 1, by omega⟩
          obtain rfl : xv = (z : Int) + 1 := by omega
          clear hx0 hxv
          obtain ⟨qq, s', h1, h2, h3, h4, h5⟩ := hE.next HL.out.hT HSR.out HYB.out
          have hzn : z < n := by have h1 := hE.hx; have h2 := HMM.out; omega
          have hzn' : (z : Int) < (n : Int) := by omega
          have hqn := h2.2.1
          have hqn' : (qq : Int) < (n : Int) := by omega
          have hSt1 := hSt.setS HL.out hlt (p : Int)
          have hKp1 := hKp.setS hlt (.int .i32 (p : Int))
          obtain ⟨hcz, hfz⟩ := hSt1.s z hzn
          rw [h1] at hcz
          have hct : (wr.setCell ⟨sb, so + y, none⟩ (.int .i32 (p : Int))).cell? ⟨tb, tx + qq, none⟩ = some (.int .u8 (T qq : Int)) := hSt1.t qq hqn
          have hcM := HL.out.hT qq hqn
          obtain ⟨hcb, hfb⟩ := hSt1.b (T qq) hcM
          rw [h3] at hcb
          have hSt2 := hSt1.setB HL.out hcM (P (T qq) - 1)
          have hKp2 := hKp1.setB hcM (.int .i32 (P (T qq) - 1))
          rw [drop1_upd] at hSt2
          rw [h3, Int.add_sub_cancel] at hSt2 hKp2
          have HE := Lib.hid h5
          have HS' := Lib.hid hSt2
          have HK' := Lib.hid hKp2
          clear h1 h2 h3 h5 hE hSt hSt1 hSt2 hKp hKp1 hKp2
          generalize T qq = c at *
          have hcM' : (c : Int) < (256 : Int) := by omega
          go_wp2
          go_roundw
          case rel => exact ⟨y, z, qq, s', _, _, _, _, by omega, rfl, rfl, rfl, rfl, rfl, rfl, h4, hqn, HE.out, HS'.out, HK'.out⟩
          case measure => simp [intOf]
      · have hne : ((y : Int) != (b : Int)) = true := by simp; omega
        have HE := Lib.hid (hE.zero HSR.out hyb)
        have HS' := Lib.hid (hSt.setS HL.out hlt 0)
        have HK' := Lib.hid (hKp.setS hlt (.int .i32 0))
        have HXV := Lib.hid hxv
        clear hE hSt hKp hxv
        go_wp2
        go_roundw
        case rel => exact ⟨y, x, p, b, _, _, _, _, by omega, rfl, HXV.out, rfl, rfl, rfl, rfl, hbn, hpn, HE.out, HS'.out, HK'.out⟩
        case measure => simp [intOf]

end Go.Proofs.YtoebcbmkkhbldaaDoor

/- The walks over unmap. -/
set_option linter.unusedVariables false
namespace Go.Proofs.YtoebcbmkkhbldaaDoor
open Go.RowKit Go.Mem Sais
set_option maxRecDepth 100000


set_option maxHeartbeats 8000000 in
theorem unmap_8_32 (T : Nat → Nat) (n tb tx tc sb so sc : Nat) (sa : Nat → Int) (w : World) (hn : n ≤ 1073741824) (hn0 : 0 < n) (hsc : n ≤ sc) (hap : Apart tb tx n sb so n) (ht : Rd .u8 w tb tx n (fun i => (T i : Int))) (hS : Hold .i32 w sb so n sa)
    (hm0 : 0 < nLMS T n) (hd : ∀ x, x < nLMS T n → ∃ r, r < nLMS T n ∧ sa x = (r : Nat)) :
    Calls Tryd.prog 42 #[.slice (some ⟨tb, tx, none⟩) n tc, .slice (some ⟨sb, so, none⟩) n sc, .int .i64 (nLMS T n : Nat)] w
      (fun e w' => e = .returned (.tuple #[]) ∧ ∃ sa' : Nat → Int, Hold .i32 w' sb so n sa' ∧ (∀ x, x < nLMS T n → ∀ p, LMS T n p → sa x = (idx T n p : Nat) → sa' x = p) ∧ Kept (In sb so n) w w') := by
  have hhalf := nLMS_half (T := T) hn0
  have HD := Lib.hid hd; clear hd
  have HT := Lib.hid ht; clear ht
  have HS := Lib.hid hS; clear hS
  obtain ⟨m, hm⟩ : ∃ m, nLMS T n = m := ⟨_, rfl⟩
  have HI0 := Lib.hid (UnI.init (T := T) (n := n) (u := fun r => sa (n - nLMS T n + r)))
  rw [hm] at hhalf hm0 HD HI0 ⊢
  have HM := Lib.hid hm; clear hm
  have x1 : n - (n - m) = m := by omega
  have x2 : ((n : Int) - (m : Int)).toNat = n - m := by omega
  have x3 : (0 : Int) ≤ (n : Int) - (m : Int) := by omega
  have x4 : (n : Int) - (m : Int) ≤ (n : Int) := by omega
  have x5 : (n : Int) - (m : Int) ≤ (sc : Int) := by omega
  have x6 : ¬ sc = n - m := by omega
  have hmsc : (m : Int) ≤ (sc : Int) := by omega
  go_enter Tryd.func42, Tryd.ntmps42
  go_wp2
  clear x1 x2 x3 x4 x5 x6
  go_loopw [7, 8, 10, 11] (fun js c0 fl i wr => ∃ (j jj : Nat) (q : Int) (c : Nat) (sv : Bool) (sa' : Nat → Int), j ≤ n ∧ q = (j : Int) - 1 ∧ i = .int .i64 q ∧ c0 = .int .u8 c ∧ fl = .bool sv ∧ js = .int .i64 jj ∧ (j < n → c = T j) ∧ (j = n → c = 0) ∧ (sv = true ↔ isS T n j) ∧ UnI T n j (fun r => sa' (n - m + r)) jj ∧ jj ≤ m ∧ (∀ x, x < n - m → sa' x = sa x) ∧ Rd .u8 wr tb tx n (fun i => (T i : Int)) ∧ Hold .i32 wr sb so n sa' ∧ Kept (In sb so n) w wr) (fun _ _ _ i _ => (intOf i + 1).toNat)
  case atStart => exact ⟨n, m, _, 0, false, sa, Nat.le_refl _, rfl, rfl, rfl, rfl, rfl, fun h => by omega, fun _ => rfl, ⟨(fun h => by cases h), fun h => by have := isS_lt h; omega⟩, HI0.out, Nat.le_refl _, fun _ _ => rfl, HT.out, HS.out, Kept.refl _ _⟩
  case round =>
    clear HI0 HT HS
    obtain ⟨j, jj, q, c, sv, sa', hj, hq, rfl, rfl, rfl, rfl, hc1, hc2, hsv, hI, hjj, hlo, ht, hS, hK⟩ := hrel
    by_cases hj0 : j = 0
    · subst hj0
      obtain rfl : q = -1 := by omega
      have HU := Lib.hid (show ∀ p, LMS T n p → sa' (n - m + idx T n p) = p from fun p hp => hI.a p hp hp.1)
      have HLO := Lib.hid hlo
      have HS' := Lib.hid hS
      have HK' := Lib.hid hK
      clear hc1 hc2 hsv hI hlo ht hS hK hq
      go_wp2
      go_loopw [12] (fun is wr => ∃ (i : Nat) (sb' : Nat → Int), i ≤ m ∧ is = .int .i64 i ∧ (∀ x, x < i → ∀ p, LMS T n p → sa x = (idx T n p : Nat) → sb' x = p) ∧ (∀ x, i ≤ x → sb' x = sa' x) ∧ Hold .i32 wr sb so n sb' ∧ Kept (In sb so n) w wr) (fun is _ => m - (intOf is).toNat)
      case atStart => exact ⟨0, _, by omega, rfl, fun x hx => by omega, fun _ _ => rfl, HS'.out, HK'.out⟩
      case round =>
        clear HS' HK'
        obtain ⟨i, sb', hi, rfl, hdn, htd, hS, hK⟩ := hrel
        by_cases hlt : i < m
        · obtain ⟨r, hr, hv⟩ := HD.out i hlt
          obtain ⟨p, hp, hidx⟩ := idx_surj (T := T) (n := n) (r := r) (by rw [HM.out]; exact hr)
          obtain ⟨hci, hfi⟩ := hS i (by omega)
          rw [htd i (Nat.le_refl _), HLO.out i (by omega), hv] at hci
          obtain ⟨hcu, hfu⟩ := hS (n - m + r) (by omega)
          rw [← Nat.add_assoc, htd _ (by omega), ← hidx, HU.out p hp, hidx] at hcu
          have hpn := hp.2.1
          have HS' := Lib.hid (hS.set (show i < n by omega) (p : Int))
          have HK' := Lib.hid (hK.set (.int .i32 (p : Int)) (show In sb so n sb (so + i) from ⟨rfl, by omega, by omega⟩))
          have HDN := Lib.hid (show ∀ x, x < i + 1 → ∀ p, LMS T n p → sa x = (idx T n p : Nat) → upd sb' i (p : Int) x = p → True from fun _ _ _ _ _ _ => trivial)
          have HDN2 : Hid (∀ x, x < i + 1 → ∀ p', LMS T n p' → sa x = (idx T n p' : Nat) → upd sb' i (p : Int) x = p') := fun x hx p' hp' hx' => by
            by_cases e : x = i
            · subst e
              rw [upd_same]
              rw [hv] at hx'
              rw [idx_inj hp hp' (by omega)]
            · rw [upd_other _ _ e]; exact hdn x (by omega) p' hp' hx'
          have HTD : Hid (∀ x, i + 1 ≤ x → upd sb' i (p : Int) x = sa' x) := fun x hx => by rw [upd_other _ _ (by omega)]; exact htd x (by omega)
          clear hv hidx hp hdn htd hS hK HDN
          have hlt' : (i : Int) < (m : Int) := by omega
          have hr' : (r : Int) < (m : Int) := by omega
          go_wp2
          go_roundw
          case rel => exact ⟨i + 1, _, by omega, by go_num, HDN2.out, HTD.out, HS'.out, HK'.out⟩
          case measure => simp [intOf]; omega
        · obtain rfl : i = m := by omega
          have HS' := Lib.hid hS
          have HK' := Lib.hid hK
          have HDN := Lib.hid hdn
          clear hdn htd hS hK
          go_wp2
          go_end0
          exact ⟨rfl, _, HS'.out, HDN.out, HK'.out⟩
    · obtain ⟨mm, rfl⟩ : ∃ x, j = x + 1 := ⟨j - 1, by omega⟩
      obtain rfl : q = (mm : Int) := by omega
      clear hq hj0
      have hct : wr.cell? ⟨tb, tx + mm, none⟩ = some (.int .u8 (T mm : Int)) := ht mm (by omega)
      obtain ⟨d, hd⟩ : ∃ d, T mm = d := ⟨_, rfl⟩
      rw [hd] at hct
      have hmn : (mm : Int) < (n : Int) := by omega
      have hm0 : (0 : Int) ≤ (mm : Int) := by omega
      by_cases w1 : d < c
      · have hmn1 : mm + 1 < n := by
          refine Classical.byContradiction fun hh => ?_
          have := hc2 (by omega); omega
        have hit := iter_lt (T := T) (n := n) (j := mm + 1) (by omega) hmn1 (by have := hc1 hmn1; simp only [Nat.add_sub_cancel]; omega)
        simp only [Nat.add_sub_cancel] at hit
        have HR := Lib.hid (show (mm < n → d = T mm) ∧ (mm = n → d = 0) ∧ (true = true ↔ isS T n mm) ∧ UnI T n mm (fun r => sa' (n - m + r)) jj from ⟨fun _ => hd.symm, fun h => by omega, ⟨fun _ => hit.1, fun _ => rfl⟩, hI.none hit.2⟩)
        have HT' := Lib.hid ht
        have HS' := Lib.hid hS
        have HK' := Lib.hid hK
        have HLO := Lib.hid hlo
        clear ht hS hK hlo
        clear hc1 hc2 hsv hI hd hit
        go_wp2
        go_roundw
        case rel => exact ⟨mm, jj, _, d, true, sa', by omega, rfl, rfl, rfl, rfl, rfl, HR.out.1, HR.out.2.1, HR.out.2.2.1, HR.out.2.2.2, hjj, HLO.out, HT'.out, HS'.out, HK'.out⟩
        case measure => simp [intOf]
      · by_cases w2 : c < d ∧ sv = true
        · obtain ⟨w2, rfl⟩ := w2
          have hS1 := hsv.1 rfl
          have hmn1 : mm + 1 < n := by have := isS_lt hS1; omega
          have hcT := hc1 hmn1
          have hit := iter_lms (T := T) (n := n) (j := mm + 1) (by omega) hmn1 (by simp only [Nat.add_sub_cancel]; omega) hS1
          simp only [Nat.add_sub_cancel] at hit
          obtain ⟨hj1, hj2, hI'⟩ := hI.lms hit.1
          have hju : jj - 1 < m := by omega
          obtain ⟨hcu, hfu⟩ := hS (n - m + (jj - 1)) (by omega)
          rw [← Nat.add_assoc] at hcu hfu
          obtain ⟨old, hold⟩ : ∃ z, sa' (n - m + (jj - 1)) = z := ⟨_, rfl⟩
          rw [hold] at hcu
          have HS' : Hid (Hold .i32 (wr.setCell ⟨sb, so + (n - m) + (jj - 1), none⟩ (.int .i32 ((mm : Int) + 1))) sb so n (upd sa' (n - m + (jj - 1)) ((mm : Int) + 1))) := by
            rw [Nat.add_assoc]; exact hS.set (by omega) _
          have HT' : Hid (Rd .u8 (wr.setCell ⟨sb, so + (n - m) + (jj - 1), none⟩ (.int .i32 ((mm : Int) + 1))) tb tx n (fun i => (T i : Int))) := by
            rw [Nat.add_assoc]; exact ht.set_other hap (show n - m + (jj - 1) < n by omega) _
          have HK' : Hid (Kept (In sb so n) w (wr.setCell ⟨sb, so + (n - m) + (jj - 1), none⟩ (.int .i32 ((mm : Int) + 1)))) := hK.set _ ⟨rfl, by omega, by omega⟩
          have HLO : Hid (∀ x, x < n - m → upd sa' (n - m + (jj - 1)) ((mm : Int) + 1) x = sa x) := fun x hx => by rw [upd_other _ _ (by omega)]; exact hlo x hx
          have hfe : (fun r => upd sa' (n - m + (jj - 1)) ((mm : Int) + 1) (n - m + r)) = upd (fun r => sa' (n - m + r)) (jj - 1) ((mm : Int) + 1) := by
            funext r
            by_cases e : r = jj - 1
            · subst e; rw [upd_same, upd_same]
            · rw [upd_other _ _ e, upd_other _ _ (by omega)]
          rw [← hfe] at hI'
          have HR := Lib.hid (show (mm < n → d = T mm) ∧ (mm = n → d = 0) ∧ (false = true ↔ isS T n mm) ∧ UnI T n mm _ (jj - 1) from ⟨fun _ => hd.symm, fun h => by omega, ⟨(fun h => by cases h), fun h => (hit.2 h).elim⟩, hI'⟩)
          have y1 : ((jj : Int) - 1).toNat = jj - 1 := by omega
          have y2 : (0 : Int) ≤ (jj : Int) - 1 := by omega
          have y3 : (jj : Int) - 1 < (m : Int) := by omega
          have y4 : 1 ≤ jj := hj1
          clear hc1 hc2 hsv hI hI' hS ht hK hlo hd hit hcT hS1 hold hfe
          go_wp2
          go_roundw
          case rel => exact ⟨mm, jj - 1, _, d, false, _, by omega, rfl, rfl, rfl, rfl, congrArg (Value.int .i64) (show (jj : Int) - 1 = ((jj - 1 : Nat) : Int) by omega), HR.out.1, HR.out.2.1, HR.out.2.2.1, HR.out.2.2.2, by omega, HLO.out, HT'.out, HS'.out, HK'.out⟩
          case measure => simp [intOf]
        · have hrest : (sv = true ↔ isS T n mm) ∧ ¬ LMS T n (mm + 1) := by
            by_cases hmn1 : mm + 1 < n
            · have hcT := hc1 hmn1
              have hit := iter_else (T := T) (n := n) (j := mm + 1) (by omega) hmn1 (by simp only [Nat.add_sub_cancel]; omega) (fun hh => w2 ⟨by simp only [Nat.add_sub_cancel] at hh; omega, hsv.2 hh.2⟩)
              simp only [Nat.add_sub_cancel] at hit
              exact ⟨hsv.trans hit.1.symm, hit.2⟩
            · have e : mm + 1 = n := by omega
              have h1 : ¬ isS T n (mm + 1) := fun h => by have := isS_lt h; omega
              have h2 : ¬ isS T n mm := fun h => by have := isS_lt h; omega
              exact ⟨⟨fun h => (h1 (hsv.1 h)).elim, fun h => (h2 h).elim⟩, fun h => h1 (LMS_S h)⟩
          have HR := Lib.hid (show (mm < n → d = T mm) ∧ (mm = n → d = 0) ∧ (sv = true ↔ isS T n mm) ∧ UnI T n mm (fun r => sa' (n - m + r)) jj from ⟨fun _ => hd.symm, fun h => by omega, hrest.1, hI.none hrest.2⟩)
          have HT' := Lib.hid ht
          have HS' := Lib.hid hS
          have HK' := Lib.hid hK
          have HLO := Lib.hid hlo
          clear ht hS hK hlo
          clear hc1 hc2 hsv hI hd hrest
          by_cases w3 : c < d
          · obtain rfl : sv = false := by cases sv; rfl; exact (w2 ⟨w3, rfl⟩).elim
            clear w2
            go_wp2
            go_roundw
            case rel => exact ⟨mm, jj, _, d, false, sa', by omega, rfl, rfl, rfl, rfl, rfl, HR.out.1, HR.out.2.1, HR.out.2.2.1, HR.out.2.2.2, hjj, HLO.out, HT'.out, HS'.out, HK'.out⟩
            case measure => simp [intOf]
          · clear w2
            go_wp2
            go_roundw
            case rel => exact ⟨mm, jj, _, d, sv, sa', by omega, rfl, rfl, rfl, rfl, rfl, HR.out.1, HR.out.2.1, HR.out.2.2.1, HR.out.2.2.2, hjj, HLO.out, HT'.out, HS'.out, HK'.out⟩
            case measure => simp [intOf]

end Go.Proofs.YtoebcbmkkhbldaaDoor

/- The walks over length_8_32. -/
set_option linter.unusedVariables false
namespace Go.Proofs.YtoebcbmkkhbldaaDoor
open Go.RowKit Go.Mem Sais
set_option maxRecDepth 100000


set_option maxHeartbeats 8000000 in
theorem length_8_32 (T : Nat → Nat) (n tb tx tc sb so sc : Nat) (nv : Value) (sa : Nat → Int) (w : World) (hT : ∀ i, i < n → T i < 256) (hn : n ≤ 1073741824) (hap : Apart tb tx n sb so n) (ht : Rd .u8 w tb tx n (fun i => (T i : Int))) (hS : Hold .i32 w sb so n sa) :
    Calls Tryd.prog 38 #[.slice (some ⟨tb, tx, none⟩) n tc, .slice (some ⟨sb, so, none⟩) n sc, nv] w
      (fun e w' => e = .returned (.tuple #[]) ∧ ∃ (sa' : Nat → Int) (ee : Nat), Hold .i32 w' sb so n sa' ∧ LenI T n (lc8 T n) sa 0 sa' ee ∧ Kept (In sb so n) w w') := by
  have HT := Lib.hid ht; clear ht
  have HS := Lib.hid hS; clear hS
  have HTT := Lib.hid hT; clear hT
  go_enter Tryd.func38, Tryd.ntmps38
  go_wp2
  go_loopw [6, 7, 8, 10, 11] (fun es cs c0 fl i wr => ∃ (j ee cx : Nat) (q : Int) (c : Nat) (sv : Bool) (sa' : Nat → Int), j ≤ n ∧ q = (j : Int) - 1 ∧ i = .int .i64 q ∧ c0 = .int .u8 c ∧ fl = .bool sv ∧ es = .int .i64 ee ∧ cs = .int .u32 cx ∧ cx < 4294967296 ∧ (j < n → c = T j) ∧ (j = n → c = 0) ∧ (sv = true ↔ isS T n j) ∧ LenI T n (lc8 T n) sa j sa' ee ∧ (ee ≠ 0 → cx = pkv T (ee - 1) (ee - 2 - j)) ∧ ee ≤ n + 1 ∧ c < 256 ∧ Rd .u8 wr tb tx n (fun i => (T i : Int)) ∧ Hold .i32 wr sb so n sa' ∧ Kept (In sb so n) w wr) (fun _ _ _ _ i _ => (intOf i + 1).toNat)
  case atStart => exact ⟨n, 0, 0, _, 0, false, sa, Nat.le_refl _, rfl, rfl, rfl, rfl, rfl, rfl, by omega, fun h => by omega, fun _ => rfl, ⟨(fun h => by cases h), fun h => by have := isS_lt h; omega⟩, LenI.init, fun h => (h rfl).elim, by omega, by omega, HT.out, HS.out, Kept.refl _ _⟩
  case round =>
    clear HT HS
    obtain ⟨j, ee, cx, q, c, sv, sa', hj, hq, rfl, rfl, rfl, rfl, rfl, hcx, hc1, hc2, hsv, hI, hcx2, hee, hc256, ht, hS, hK⟩ := hrel
    by_cases hj0 : j = 0
    · subst hj0
      obtain rfl : q = -1 := by omega
      have HI := Lib.hid hI
      have HS' := Lib.hid hS
      have HK' := Lib.hid hK
      clear hc1 hc2 hsv hI ht hS hK hq hcx2
      go_wp2
      go_end0
      exact ⟨rfl, _, _, HS'.out, HI.out, HK'.out⟩
    · obtain ⟨mm, rfl⟩ : ∃ x, j = x + 1 := ⟨j - 1, by omega⟩
      obtain rfl : q = (mm : Int) := by omega
      clear hq hj0
      have hct : wr.cell? ⟨tb, tx + mm, none⟩ = some (.int .u8 (T mm : Int)) := ht mm (by omega)
      obtain ⟨d, hd⟩ : ∃ d, T mm = d := ⟨_, rfl⟩
      rw [hd] at hct
      have hmn : (mm : Int) < (n : Int) := by omega
      have hm0 : (0 : Int) ≤ (mm : Int) := by omega
      have hd256 : d < 256 := by rw [← hd]; exact HTT.out mm (by omega)
      obtain ⟨cy, hcyv⟩ : ∃ y, cx * 256 % 4294967296 + (c + 1) % 256 = y := ⟨_, rfl⟩
      have hcy : cy < 4294967296 := by omega
      have hor : bits BinOp.or IntKind.u32 ((cx : Int) * 256 % 4294967296) (((c : Int) + 1) % 256) = (cy : Int) := by
        rw [bits_pack _ _ (by omega) (by omega), ← hcyv]; omega
      have hor' : c < 255 → bits BinOp.or IntKind.u32 ((cx : Int) * 256 % 4294967296) ((c : Int) + 1) = (cy : Int) := fun h => by
        rw [← hor, show ((c : Int) + 1) % 256 = (c : Int) + 1 by omega]
      have hpk : ee ≠ 0 → cy = pkv T (ee - 1) (ee - 2 - mm) := fun h0 => by
        have h1 := hcx2 h0
        have h2 : mm + 1 < ee - 1 := by
          rcases hI.e with ⟨_, h3⟩ | ⟨q, h3, h4, _, h5⟩
          · omega
          · omega
        have h3 : ee - 1 < n := by
          rcases hI.e with ⟨_, h3⟩ | ⟨q, h3, h4, _, h5⟩
          · omega
          · have := h3.2.1; omega
        rw [← hcyv, h1, show ee - 2 - mm = (ee - 2 - (mm + 1)) + 1 by omega]
        simp only [pkv]
        rw [show ee - 1 - (ee - 2 - (mm + 1) + 1) = mm + 1 by omega, ← hc1 (by omega)]
      have HOR' := Lib.hid hor'; clear hor' hcx2
      by_cases w1 : d < c
      · have hmn1 : mm + 1 < n := by
          refine Classical.byContradiction fun hh => ?_
          have := hc2 (by omega); omega
        have hit := iter_lt (T := T) (n := n) (j := mm + 1) (by omega) hmn1 (by have := hc1 hmn1; simp only [Nat.add_sub_cancel]; omega)
        simp only [Nat.add_sub_cancel] at hit
        have HR := Lib.hid (show (mm < n → d = T mm) ∧ (mm = n → d = 0) ∧ (true = true ↔ isS T n mm) ∧ (LenI T n (lc8 T n) sa mm sa' ee ∧ (ee ≠ 0 → cy = pkv T (ee - 1) (ee - 2 - mm))) from ⟨fun _ => hd.symm, fun h => by omega, ⟨fun _ => hit.1, fun _ => rfl⟩, ⟨hI.none hit.2, hpk⟩⟩)
        have HT' := Lib.hid ht
        have HS' := Lib.hid hS
        have HK' := Lib.hid hK
        clear ht hS hK hpk hcyv
        clear hc1 hc2 hsv hI hd hit
        go_wp2
        go_roundw
        case rel => exact ⟨mm, ee, cy, _, d, true, sa', by omega, rfl, rfl, rfl, rfl, rfl, rfl, hcy, HR.out.1, HR.out.2.1, HR.out.2.2.1, HR.out.2.2.2.1, HR.out.2.2.2.2, hee, hd256, HT'.out, HS'.out, HK'.out⟩
        case measure => simp [intOf]
      · by_cases w2 : c < d ∧ sv = true
        · obtain ⟨w2, rfl⟩ := w2
          have hS1 := hsv.1 rfl
          have hmn1 : mm + 1 < n := by have := isS_lt hS1; omega
          have hcT := hc1 hmn1
          have hit := iter_lms (T := T) (n := n) (j := mm + 1) (by omega) hmn1 (by simp only [Nat.add_sub_cancel]; omega) hS1
          simp only [Nat.add_sub_cancel] at hit
          have hI' := hI.lms hit.1
          have hnx := hI.nx
          have hc255 : c < 255 := by omega
          have hor2 := HOR'.out hc255
          obtain ⟨h, hh⟩ : ∃ h, (mm + 1) / 2 = h := ⟨_, rfl⟩
          have hhn : h < n := by omega
          obtain ⟨hcu, hfu⟩ := hS h hhn
          obtain ⟨old, hold⟩ : ∃ z, sa' h = z := ⟨_, rfl⟩
          rw [hold] at hcu
          have y1 : ((mm : Int) + 1) / 2 = (h : Int) := by omega
          rcases hnx with ⟨hno, he0⟩ | ⟨dd, hdd, he0⟩
          · have hcode := lc8_last hno
            rw [hcode, hh] at hI'
            subst he0
            have HR := Lib.hid (show (mm < n → d = T mm) ∧ (mm = n → d = 0) ∧ (false = true ↔ isS T n mm) ∧ LenI T n (lc8 T n) sa mm _ (mm + 2) ∧ (mm + 2 ≠ 0 → c + 1 = pkv T (mm + 2 - 1) (mm + 2 - 2 - mm)) from ⟨fun _ => hd.symm, fun h => by omega, ⟨(fun h => by cases h), fun h => (hit.2 h).elim⟩, hI', fun _ => by rw [show mm + 2 - 2 - mm = 0 by omega, show mm + 2 - 1 = mm + 1 by omega]; simp only [pkv]; rw [← hcT]; omega⟩)
            have HS' := Lib.hid (hS.set hhn (0))
            have HT' := Lib.hid (ht.set_other hap hhn (.int .i32 (0)))
            have HK' := Lib.hid (hK.set (.int .i32 (0)) (show In sb so n sb (so + h) from ⟨rfl, by omega, by omega⟩))
            clear hc1 hc2 hsv hI hI' hS ht hK hd hit hcT hS1 hold hh hpk hcyv hcode hno
            go_wp2
            go_roundw
            case rel => exact ⟨mm, mm + 2, c + 1, _, d, false, _, by omega, rfl, rfl, rfl, rfl, by go_num, by go_num, by omega, HR.out.1, HR.out.2.1, HR.out.2.2.1, HR.out.2.2.2.1, HR.out.2.2.2.2, by omega, hd256, HT'.out, HS'.out, HK'.out⟩
            case measure => simp [intOf]
          · have hcode := lc8_nx hdd
            have hdn := hdd.2.1.2.1
            rw [hcode, hh] at hI'
            have hpk2 := hpk (by omega)
            rw [show ee - 1 = mm + 1 + dd by omega, show ee - 2 - mm = dd by omega] at hpk2
            unfold enc8 at hI'
            rw [← hpk2] at hI'
            have hez : ((ee : Int) == 0) = false := beq_eq_false_iff_ne.2 (by omega)
            have hco : (ee : Int) - ((mm : Int) + 1) = (dd : Int) + 1 := by omega
            have hd1 : (ee : Int) - ((mm : Int) + 1) ≤ (n : Int) := by omega
            have hd0 : 0 ≤ (ee : Int) - ((mm : Int) + 1) := by omega
            by_cases h4 : dd + 1 ≤ 4
            · have hg4 : (ee : Int) - ((mm : Int) + 1) ≤ 4 := by omega
              obtain ⟨xv, hxv⟩ : ∃ x : Int, x = 4294967295 - (cy : Int) := ⟨_, rfl⟩
              have hnot : bits BinOp.xor IntKind.u32 (if IntKind.u32.signed = true then -1 else IntKind.u32.max) (cy : Int) = xv := by rw [bits_not cy hcy, hxv]
              have hxv0 : 0 ≤ xv := by omega
              have hxv1 : xv ≤ 4294967295 := by omega
              rw [← hxv] at hI'
              by_cases h5 : (n : Int) ≤ xv
              · rw [if_pos ⟨h4, h5⟩] at hI'
                have hs32 : s32 xv = wrap32 xv := by unfold s32 wrap32; split <;> omega
                rw [hs32] at hI'
                have HR := Lib.hid (show (mm < n → d = T mm) ∧ (mm = n → d = 0) ∧ (false = true ↔ isS T n mm) ∧ LenI T n (lc8 T n) sa mm _ (mm + 2) ∧ (mm + 2 ≠ 0 → c + 1 = pkv T (mm + 2 - 1) (mm + 2 - 2 - mm)) from ⟨fun _ => hd.symm, fun h => by omega, ⟨(fun h => by cases h), fun h => (hit.2 h).elim⟩, hI', fun _ => by rw [show mm + 2 - 2 - mm = 0 by omega, show mm + 2 - 1 = mm + 1 by omega]; simp only [pkv]; rw [← hcT]; omega⟩)
                have HS' := Lib.hid (hS.set hhn (wrap32 xv))
                have HT' := Lib.hid (ht.set_other hap hhn (.int .i32 (wrap32 xv)))
                have HK' := Lib.hid (hK.set (.int .i32 (wrap32 xv)) (show In sb so n sb (so + h) from ⟨rfl, by omega, by omega⟩))
                clear hc1 hc2 hsv hI hI' hS ht hK hd hit hcT hS1 hold hh hpk hcyv hcode hdd he0 hco hxv hpk2 hs32
                go_wp2
                go_roundw
                case rel => exact ⟨mm, mm + 2, c + 1, _, d, false, _, by omega, rfl, rfl, rfl, rfl, by go_num, by go_num, by omega, HR.out.1, HR.out.2.1, HR.out.2.2.1, HR.out.2.2.2.1, HR.out.2.2.2.2, by omega, hd256, HT'.out, HS'.out, HK'.out⟩
                case measure => simp [intOf]
              · rw [if_neg (fun hh => h5 hh.2), ← hco] at hI'
                have HR := Lib.hid (show (mm < n → d = T mm) ∧ (mm = n → d = 0) ∧ (false = true ↔ isS T n mm) ∧ LenI T n (lc8 T n) sa mm _ (mm + 2) ∧ (mm + 2 ≠ 0 → c + 1 = pkv T (mm + 2 - 1) (mm + 2 - 2 - mm)) from ⟨fun _ => hd.symm, fun h => by omega, ⟨(fun h => by cases h), fun h => (hit.2 h).elim⟩, hI', fun _ => by rw [show mm + 2 - 2 - mm = 0 by omega, show mm + 2 - 1 = mm + 1 by omega]; simp only [pkv]; rw [← hcT]; omega⟩)
                have HS' := Lib.hid (hS.set hhn ((ee : Int) - ((mm : Int) + 1)))
                have HT' := Lib.hid (ht.set_other hap hhn (.int .i32 ((ee : Int) - ((mm : Int) + 1))))
                have HK' := Lib.hid (hK.set (.int .i32 ((ee : Int) - ((mm : Int) + 1))) (show In sb so n sb (so + h) from ⟨rfl, by omega, by omega⟩))
                clear hc1 hc2 hsv hI hI' hS ht hK hd hit hcT hS1 hold hh hpk hcyv hcode hdd he0 hco hxv hpk2
                go_wp2
                go_roundw
                case rel => exact ⟨mm, mm + 2, c + 1, _, d, false, _, by omega, rfl, rfl, rfl, rfl, by go_num, by go_num, by omega, HR.out.1, HR.out.2.1, HR.out.2.2.1, HR.out.2.2.2.1, HR.out.2.2.2.2, by omega, hd256, HT'.out, HS'.out, HK'.out⟩
                case measure => simp [intOf]
            · rw [if_neg (fun hh => h4 hh.1), ← hco] at hI'
              have hg4 : decide ((ee : Int) - ((mm : Int) + 1) ≤ 4) = false := decide_eq_false (by omega)
              have HR := Lib.hid (show (mm < n → d = T mm) ∧ (mm = n → d = 0) ∧ (false = true ↔ isS T n mm) ∧ LenI T n (lc8 T n) sa mm _ (mm + 2) ∧ (mm + 2 ≠ 0 → c + 1 = pkv T (mm + 2 - 1) (mm + 2 - 2 - mm)) from ⟨fun _ => hd.symm, fun h => by omega, ⟨(fun h => by cases h), fun h => (hit.2 h).elim⟩, hI', fun _ => by rw [show mm + 2 - 2 - mm = 0 by omega, show mm + 2 - 1 = mm + 1 by omega]; simp only [pkv]; rw [← hcT]; omega⟩)
              have HS' := Lib.hid (hS.set hhn ((ee : Int) - ((mm : Int) + 1)))
              have HT' := Lib.hid (ht.set_other hap hhn (.int .i32 ((ee : Int) - ((mm : Int) + 1))))
              have HK' := Lib.hid (hK.set (.int .i32 ((ee : Int) - ((mm : Int) + 1))) (show In sb so n sb (so + h) from ⟨rfl, by omega, by omega⟩))
              clear hc1 hc2 hsv hI hI' hS ht hK hd hit hcT hS1 hold hh hpk hcyv hcode hdd he0 hco hpk2
              go_wp2
              go_roundw
              case rel => exact ⟨mm, mm + 2, c + 1, _, d, false, _, by omega, rfl, rfl, rfl, rfl, by go_num, by go_num, by omega, HR.out.1, HR.out.2.1, HR.out.2.2.1, HR.out.2.2.2.1, HR.out.2.2.2.2, by omega, hd256, HT'.out, HS'.out, HK'.out⟩
              case measure => simp [intOf]
        · have hrest : (sv = true ↔ isS T n mm) ∧ ¬ LMS T n (mm + 1) := by
            by_cases hmn1 : mm + 1 < n
            · have hcT := hc1 hmn1
              have hit := iter_else (T := T) (n := n) (j := mm + 1) (by omega) hmn1 (by simp only [Nat.add_sub_cancel]; omega) (fun hh => w2 ⟨by simp only [Nat.add_sub_cancel] at hh; omega, hsv.2 hh.2⟩)
              simp only [Nat.add_sub_cancel] at hit
              exact ⟨hsv.trans hit.1.symm, hit.2⟩
            · have e : mm + 1 = n := by omega
              have h1 : ¬ isS T n (mm + 1) := fun h => by have := isS_lt h; omega
              have h2 : ¬ isS T n mm := fun h => by have := isS_lt h; omega
              exact ⟨⟨fun h => (h1 (hsv.1 h)).elim, fun h => (h2 h).elim⟩, fun h => h1 (LMS_S h)⟩
          have HR := Lib.hid (show (mm < n → d = T mm) ∧ (mm = n → d = 0) ∧ (sv = true ↔ isS T n mm) ∧ (LenI T n (lc8 T n) sa mm sa' ee ∧ (ee ≠ 0 → cy = pkv T (ee - 1) (ee - 2 - mm))) from ⟨fun _ => hd.symm, fun h => by omega, hrest.1, ⟨hI.none hrest.2, hpk⟩⟩)
          have HT' := Lib.hid ht
          have HS' := Lib.hid hS
          have HK' := Lib.hid hK
          clear ht hS hK hpk hcyv
          clear hc1 hc2 hsv hI hd hrest
          by_cases w3 : c < d
          · have hor2 := HOR'.out (by omega)
            obtain rfl : sv = false := by cases sv; rfl; exact (w2 ⟨w3, rfl⟩).elim
            clear w2
            go_wp2
            go_roundw
            case rel => exact ⟨mm, ee, cy, _, d, false, sa', by omega, rfl, rfl, rfl, rfl, rfl, rfl, hcy, HR.out.1, HR.out.2.1, HR.out.2.2.1, HR.out.2.2.2.1, HR.out.2.2.2.2, hee, hd256, HT'.out, HS'.out, HK'.out⟩
            case measure => simp [intOf]
          · clear w2
            go_wp2
            go_roundw
            case rel => exact ⟨mm, ee, cy, _, d, sv, sa', by omega, rfl, rfl, rfl, rfl, rfl, rfl, hcy, HR.out.1, HR.out.2.1, HR.out.2.2.1, HR.out.2.2.2.1, HR.out.2.2.2.2, hee, hd256, HT'.out, HS'.out, HK'.out⟩
            case measure => simp [intOf]

end Go.Proofs.YtoebcbmkkhbldaaDoor

/- The walks over assignID. -/
set_option linter.unusedVariables false
namespace Go.Proofs.YtoebcbmkkhbldaaDoor
open Go.RowKit Go.Mem Sais
set_option maxRecDepth 100000


set_option maxHeartbeats 8000000 in
theorem assignID_8_32 (T : Nat → Nat) (n tb tx tc sb so sc lo : Nat) (lc : Nat → Int) (sa : Nat → Int) (w : World) (hn : n ≤ 1073741824) (F : First T n lo) (C : LenCode T n lc) (hsc : n ≤ sc) (htc : n ≤ tc) (hap : Apart tb tx n sb so n) (ht : Rd .u8 w tb tx n (fun i => (T i : Int))) (hS : Hold .i32 w sb so n sa)
    (hA : ∀ lp, Asg T n lc 0 sa 0 lp (-1)) (hm0 : 0 < nLMS T n) :
    Calls Tryd.prog 39 #[.slice (some ⟨tb, tx, none⟩) n tc, .slice (some ⟨sb, so, none⟩) n sc, .int .i64 (nLMS T n : Nat)] w
      (asgPost T n lc sb so (nLMS T n) w) := by
  have hn0 : 0 < n := by have := F.lms.2.1; omega
  have hhalf := nLMS_half (T := T) hn0
  have HT := Lib.hid ht; clear ht
  have HS := Lib.hid hS; clear hS
  have HA := Lib.hid hA; clear hA
  have HF := Lib.hid F; clear F
  have HC := Lib.hid C; clear C
  obtain ⟨m, hm⟩ : ∃ m, nLMS T n = m := ⟨_, rfl⟩
  rw [hm] at hhalf hm0 ⊢
  have HM := Lib.hid hm; clear hm
  have x1 : n - (n - m) = m := by omega
  have x2 : ((n : Int) - (m : Int)).toNat = n - m := by omega
  have x3 : (0 : Int) ≤ (n : Int) - (m : Int) := by omega
  have x4 : (n : Int) - (m : Int) ≤ (n : Int) := by omega
  have x5 : (n : Int) - (m : Int) ≤ (sc : Int) := by omega
  have x6 : ¬ sc = n - m := by omega
  go_enter Tryd.func39, Tryd.ntmps39
  go_wp2
  clear x1 x2 x3 x4 x5 x6
  go_loopw [7, 8, 9, 24] (fun ids ls ps is wr => ∃ (r id lp : Nat) (l : Int) (sa' : Nat → Int), r ≤ m ∧ is = .int .i64 r ∧ ids = .int .i64 id ∧ ls = .int .i32 l ∧ ps = .int .i32 lp ∧ id ≤ r ∧ lp < n ∧ Asg T n lc r sa' id lp l ∧ Rd .u8 wr tb tx n (fun i => (T i : Int)) ∧ Hold .i32 wr sb so n sa' ∧ Kept (In sb so n) w wr) (fun _ _ _ is _ => m - (intOf is).toNat)
  case atStart => exact ⟨0, 0, 0, -1, sa, by omega, rfl, rfl, rfl, rfl, by omega, hn0, HA.out 0, HT.out, HS.out, Kept.refl _ _⟩
  case round =>
    clear HA HT HS
    obtain ⟨r, id, lp, l, sa', hr, rfl, rfl, rfl, rfl, hid, hlp, hA, ht, hS, hK⟩ := hrel
    by_cases hlt : r < m
    · obtain ⟨hL, hrk⟩ := rho_spec HF.out (r := r) (by rw [HM.out]; exact hlt)
      obtain ⟨j, hj⟩ : ∃ j, rho T n r = j := ⟨_, rfl⟩
      have hlt'' : r < nLMS T n := by rw [HM.out]; exact hlt
      have htop := hA.top r (by rw [HM.out]; exact hlt)
      have htod := hA.tod r (Nat.le_refl _) (by rw [HM.out]; exact hlt)
      rw [hj] at hL hrk htop htod
      rw [HM.out] at htop
      have hjn := LMS_lt hL
      obtain ⟨hc1, hf1⟩ := hS (n - m + r) (by omega)
      rw [htop, ← Nat.add_assoc] at hc1
      obtain ⟨hc2, hf2⟩ := hS (j / 2) (by omega)
      rw [htod] at hc2
      obtain ⟨hb1, hb2⟩ := HC.out.bd j hL
      obtain ⟨ln, hln⟩ : ∃ z, lc j = z := ⟨_, rfl⟩
      rw [hln] at hc2 hb1 hb2
      have hlt' : (r : Int) < (m : Int) := by omega
      have z1 : (j : Int) / 2 < (n : Int) := by omega
      have z2 : ((j : Int) / 2).toNat = j / 2 := by omega
      have z3 : (0 : Int) ≤ (j : Int) / 2 := by omega
      have z4 : (j : Int) ≤ 1073741824 := by omega
      have HN := Lib.hid (fun h => (show Asg T n lc (r + 1) _ _ _ _ from hA.new HF.out (by rw [HM.out]; exact hlt) h))
      have HE := Lib.hid (fun h0 h => (show Asg T n lc (r + 1) _ _ _ _ from hA.same HF.out (by rw [HM.out]; exact hlt) h0 h))
      have HLA := Lib.hid hA.last
      have hLne := hA.ne_lp HF.out hlt'' hj
      have HQ1 := Lib.hid ht
      have HQ2 := Lib.hid hS
      have HQ3 := Lib.hid hK
      have HQ4 := Lib.hid hL
      have HQ5 := Lib.hid hln
      rw [hj] at HN HE
      clear hlt'' hA ht hS hK htop htod hrk hj hL hln
      have hsame : r ≠ 0 → LMS T n lp ∧ l = lc lp := fun h0 => by
        have h1 := HLA.out
        rw [if_neg h0] at h1
        exact ⟨h1.1, h1.2.2⟩
      have hjlp : r ≠ 0 → j ≠ lp := fun h0 e => hLne h0 e
      have hnewE : ln ≠ l → (r = 0 ∨ ksub T n j ≠ ksub T n lp) := fun hne => by
        by_cases h0 : r = 0
        · exact .inl h0
        · obtain ⟨h1, h2⟩ := hsame h0
          exact .inr (cmp_len HC.out HQ4.out h1 (by rw [HQ5.out, ← h2]; exact hne))
      have hsameE : ln = l → (ln < 0 ∨ (n : Int) ≤ ln) → r ≠ 0 ∧ ksub T n j = ksub T n lp := fun he hen => by
        have h0 : r ≠ 0 := fun h0 => by
          have h1 := HLA.out
          rw [if_pos h0] at h1
          exact HC.out.ne j HQ4.out (by rw [HQ5.out, he, h1])
        obtain ⟨h1, h2⟩ := hsame h0
        exact ⟨h0, HC.out.enc j lp HQ4.out h1 (by rw [HQ5.out, he, h2]) (by rw [HQ5.out]; exact hen)⟩
      clear hLne
      by_cases hne : ln = l
      · replace hsameE := hsameE hne
        subst hne
        have hne' : (ln != ln) = false := by simp
        by_cases henc : ln < 0 ∨ (n : Int) ≤ ln
        · obtain ⟨h0, hks⟩ := hsameE henc
          clear hsame hnewE hsameE hjlp
          have henc' : (n : Int) ≤ ln % 4294967296 := by omega
          have HA' := Lib.hid (HE.out h0 hks)
          have HS' := Lib.hid (HQ2.out.set (show j / 2 < n by omega) (id : Int))
          have HT' := Lib.hid (HQ1.out.set_other hap (show j / 2 < n by omega) (.int .i32 (id : Int)))
          have HK' := Lib.hid (HQ3.out.set (.int .i32 (id : Int)) (show In sb so n sb (so + j / 2) from ⟨rfl, by omega, by omega⟩))
          clear HQ1 HQ2 HQ3 HQ4 HQ5 HN HE HLA hks
          go_wp2
          refine wp_scope_two 0 1 (by decide) rfl rfl ?_
          intro J1 J2 hJ1 hJ2
          have HJ1 := Lib.hid hJ1; have HJ2 := Lib.hid hJ2; clear hJ1 hJ2
          go_wp2
          go_step3
          refine Or.inr ⟨rfl, HJ2.out _ _ ?_⟩
          go_wp2
          rw [Exit.noGoto_normal]
          go_wp2
          go_roundw
          case rel => exact ⟨r + 1, id, lp, ln, _, by omega, by go_num, rfl, rfl, rfl, by omega, hlp, HA'.out, HT'.out, HS'.out, HK'.out⟩
          case measure => simp [intOf]; omega
        · have h0 : r ≠ 0 := fun h0 => by
            have h1 := HLA.out
            rw [if_pos h0] at h1
            exact HC.out.ne j HQ4.out (by rw [HQ5.out, h1])
          obtain ⟨hlpL, hlq⟩ := hsame h0
          have hjl : j ≠ lp := hjlp h0
          obtain ⟨dd, e1, e2, e3, e4⟩ := cmp_text HC.out HQ4.out hlpL hjl (by rw [HQ5.out, hlq]) (by rw [HQ5.out]; omega) (by rw [HQ5.out]; omega)
          rw [HQ5.out] at e1
          have HCT := Lib.hid e4
          clear hsame hnewE hsameE hjlp e4 hlpL hlq hjl
          have v0 : 0 ≤ ln := by omega
          have v1 : (j : Int) ≤ (n : Int) := by omega
          have v2 : (lp : Int) ≤ (n : Int) := by omega
          have v3 : ¬ tc = j := by omega
          have v4 : ¬ tc = lp := by omega
          have v5 : ln ≤ ((tc - j : Nat) : Int) := by omega
          have v6 : ln ≤ ((tc - lp : Nat) : Int) := by omega
          have v7 : decide ((n : Int) ≤ ln % 4294967296) = false := decide_eq_false (by omega)
          have v8 : ln.toNat = dd + 1 := by omega
          have v9 : (j : Int) ≤ (tc : Int) := by omega
          have v10 : (lp : Int) ≤ (tc : Int) := by omega
          have HE1 := Lib.hid e1
          clear e1 henc
          go_wp2
          refine wp_scope_two 0 1 (by decide) rfl rfl ?_
          intro J1 J2 hJ1 hJ2
          have HJ1 := Lib.hid hJ1; have HJ2 := Lib.hid hJ2; clear hJ1 hJ2
          go_wp2
          clear v1 v2 v3 v4 v5 v6 v7 v9 v10 hc1 hf1
          obtain ⟨wo, rfl⟩ : ∃ wo : World, wo = wr := ⟨_, rfl⟩
          go_loopw [16] (fun is wr => ∃ (t q : Nat), t ≤ dd + 1 ∧ is = .int .i64 t ∧ wr = wo.drewN q ∧ ∀ s, s < t → T (j + s) = T (lp + s)) (fun is _ => dd + 1 - (intOf is).toNat)
          case atStart => exact ⟨0, 0, by omega, rfl, rfl, fun s hs => by omega⟩
          case round =>
            obtain ⟨t, q, ht1, rfl, rfl, hts⟩ := hrel
            by_cases ht2 : t < dd + 1
            · have hca : wo.cell? ⟨tb, tx + j + t, none⟩ = some (.int .u8 (T (j + t) : Int)) := by rw [Nat.add_assoc]; exact HQ1.out (j + t) (by omega)
              have hcb : wo.cell? ⟨tb, tx + lp + t, none⟩ = some (.int .u8 (T (lp + t) : Int)) := by rw [Nat.add_assoc]; exact HQ1.out (lp + t) (by omega)
              obtain ⟨ca, hca'⟩ : ∃ c, T (j + t) = c := ⟨_, rfl⟩
              obtain ⟨cb, hcb'⟩ : ∃ c, T (lp + t) = c := ⟨_, rfl⟩
              rw [hca'] at hca
              rw [hcb'] at hcb
              have u1 : (t : Int) < ln := by have := HE1.out; omega
              have u2 : (t : Int) < ((dd + 1 : Nat) : Int) := by omega
              by_cases hab : ca = cb
              · subst hab
                have HTS := Lib.hid (show ∀ s, s < t + 1 → T (j + s) = T (lp + s) from fun s hs => by
                  by_cases e : s = t
                  · subst e; rw [hca', hcb']
                  · exact hts s (by omega))
                have hab' : ((ca : Int) != (ca : Int)) = false := by simp
                clear hts hca' hcb'
                go_wp2
                go_quiet (fail)
                go_wp2
                go_roundw
                case rel => exact ⟨t + 1, _, by omega, by go_num, rfl, HTS.out⟩
                case measure => simp [intOf]; omega
              · have hks : r = 0 ∨ ksub T n j ≠ ksub T n lp := .inr fun e => hab (by rw [← hca', ← hcb']; exact HCT.out.1 e t ht2)
                have HA' := Lib.hid (HN.out hks)
                have HS' := Lib.hid (fun q => ((HQ2.out.set (show j / 2 < n by omega) ((id : Int) + 1)).drewN q))
                have HT' := Lib.hid (fun q => ((HQ1.out.set_other hap (show j / 2 < n by omega) (.int .i32 ((id : Int) + 1))).drewN q))
                have HK' := Lib.hid (fun q => ((HQ3.out.set (.int .i32 ((id : Int) + 1)) (show In sb so n sb (so + j / 2) from ⟨rfl, by omega, by omega⟩)).drewN q))
                have HL := HQ5
                have hab' : ((ca : Int) != (cb : Int)) = true := by simp; omega
                clear HQ1 HQ2 HQ3 HQ4 HQ5 HN HE HLA hks hts hca' hcb'
                go_wp2
                go_quiet (fail)
                go_wp2
                go_step3
                refine Or.inl ⟨rfl, HJ1.out _ _ ?_⟩
                go_wp2
                go_step3
                go_wp2
                rw [Exit.noGoto_normal]
                go_wp2
                go_roundw
                case rel => exact ⟨r + 1, id + 1, j, ln, _, by omega, by go_num, by go_num, rfl, rfl, by omega, by omega, by have := HA'.out; rw [HL.out] at this; exact this, HT'.out _, HS'.out _, HK'.out _⟩
                case measure => simp [intOf]; omega
            · have hks : ksub T n j = ksub T n lp := HCT.out.2 fun s hs => hts s (by omega)
              have HA' := Lib.hid (HE.out h0 hks)
              have HS' := Lib.hid (fun q => ((HQ2.out.set (show j / 2 < n by omega) (id : Int)).drewN q))
              have HT' := Lib.hid (fun q => ((HQ1.out.set_other hap (show j / 2 < n by omega) (.int .i32 (id : Int))).drewN q))
              have HK' := Lib.hid (fun q => ((HQ3.out.set (.int .i32 (id : Int)) (show In sb so n sb (so + j / 2) from ⟨rfl, by omega, by omega⟩)).drewN q))
              have u1 : ¬ (t : Int) < ln := by have := HE1.out; omega
              clear HQ1 HQ2 HQ3 HQ4 HQ5 HN HE HLA hks hts
              go_wp2
              go_step3
              refine Or.inr ⟨rfl, HJ2.out _ _ ?_⟩
              go_wp2
              rw [Exit.noGoto_normal]
              go_wp2
              go_roundw
              case rel => exact ⟨r + 1, id, lp, ln, _, by omega, by go_num, rfl, rfl, rfl, by omega, hlp, HA'.out, HT'.out _, HS'.out _, HK'.out _⟩
              case measure => simp [intOf]; omega
      · have hne' : (ln != l) = true := by simp [hne]
        have hks := hnewE hne
        clear hsame hnewE hsameE hjlp
        have HA' := Lib.hid (HN.out hks)
        have HS' := Lib.hid (HQ2.out.set (show j / 2 < n by omega) ((id : Int) + 1))
        have HT' := Lib.hid (HQ1.out.set_other hap (show j / 2 < n by omega) (.int .i32 ((id : Int) + 1)))
        have HK' := Lib.hid (HQ3.out.set (.int .i32 ((id : Int) + 1)) (show In sb so n sb (so + j / 2) from ⟨rfl, by omega, by omega⟩))
        have HL := HQ5
        clear HQ1 HQ2 HQ3 HQ4 HQ5 HN HE HLA hks
        go_wp2
        refine wp_scope_two 0 1 (by decide) rfl rfl ?_
        intro J1 J2 hJ1 hJ2
        have HJ1 := Lib.hid hJ1; have HJ2 := Lib.hid hJ2; clear hJ1 hJ2
        go_wp2
        go_step3
        refine Or.inl ⟨rfl, HJ1.out _ _ ?_⟩
        go_wp2
        go_step3
        go_wp2
        rw [Exit.noGoto_normal]
        go_wp2
        go_roundw
        case rel => exact ⟨r + 1, id + 1, j, ln, _, by omega, by go_num, by go_num, rfl, rfl, by omega, by omega, by have := HA'.out; rw [HL.out] at this; exact this, HT'.out, HS'.out, HK'.out⟩
        case measure => simp [intOf]; omega
    · obtain rfl : r = m := by omega
      have hidm := hA.id
      rw [if_neg (by omega)] at hidm
      have HIM := Lib.hid hidm
      have HA' := Lib.hid hA
      have HS' := Lib.hid hS
      have HK' := Lib.hid hK
      clear hA ht hS hK hidm
      go_wp2
      go_ret
      exact asgPost_mk (ret_int' (by rw [HIM.out])) HS'.out (by have := HA'.out; rw [HIM.out] at this; exact this) HK'.out

end Go.Proofs.YtoebcbmkkhbldaaDoor
