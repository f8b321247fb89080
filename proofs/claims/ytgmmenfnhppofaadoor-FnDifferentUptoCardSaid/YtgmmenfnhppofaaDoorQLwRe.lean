/- Repeated, FnRepeated. -/
import Derived.Test.YtgmmenfnhppofaaDoorQLwAl
set_option linter.unusedVariables false
namespace Go.Proofs.YtgmmenfnhppofaaDoor
open Go.RowKit Go.Mem Sais
set_option maxRecDepth 100000

set_option maxHeartbeats 4000000 in
theorem repeated_any (d : ByteArray) (w : World) (hd : d.size ≤ 1073741824) :
    Calls Tryd.prog 43 #[.string d] w (NQ (repN d) w) := by
  have HC := Lib.hid (fun k (hk : k ≤ d.size) u => before_any d k u hd hk)
  have HB : Hid (repN d = mx (befN d) d.size) := rfl
  have HX := Lib.hid (fun k => (mx_le (fun j _ => Nat.le_trans (befN_le d j) (Nat.sub_le _ _)) : mx (befN d) k ≤ d.size))
  have HLe := Lib.hid (fun k => Nat.le_trans (befN_le d k) (Nat.sub_le _ _))
  go_enter Tryd.func43, Tryd.ntmps43
  go_wp2_with fail
  go_loopw [3, 7, 4] (fun mv iv _ wr => MxRel (befN d) d.size w mv iv wr) (fun _ iv _ _ => d.size - (intOf iv).toNat)
  case atStart => exact ⟨0, by omega, rfl, rfl, ⟨0, rfl⟩⟩
  case round =>
    obtain ⟨k, hk, rfl, rfl, HQ⟩ := hrel
    by_cases hlt : k < d.size
    · have y1 : (k : Int) < (d.size : Int) := by omega
      have HC' := Lib.hid (HC.out k hk wr)
      have hs : Hid (mx (befN d) (k + 1) = max (mx (befN d) k) (befN d k)) := rfl
      have b1 := HX.out k
      have b2 := HLe.out k
      generalize hm1 : mx (befN d) (k + 1) = m1 at *
      generalize mx (befN d) k = m0 at *
      generalize befN d k = c at *
      have HM1 := Lib.hid hm1
      clear HC HB HX HLe hm1
      go_wp2_with fail
      refine HC'.out.mono ?_
      rintro e w1 ⟨rfl, hq⟩
      have HQ1 : Hid (∃ q, w1 = w.drewN q) := by obtain ⟨q1, rfl⟩ := hq; exact drewEx HQ.out q1
      clear HC' hq HQ
      have em := maxIf hs.out
      go_wp2
      go_roundw
      case rel => exact ⟨k + 1, by omega, by go_num, by rw [HM1.out], HQ1⟩
      case measure => simp [intOf]; omega
    · obtain rfl : k = d.size := by omega
      go_wp2
      go_ret
      exact ⟨by rw [HB.out]; rfl, HQ.out⟩
def ReRel (d : ByteArray) (w : World) (mv iv : Value) (wr : World) : Prop := ∃ i : Nat, i ≤ d.size ∧ iv = .int .i64 i ∧ mv = .int .i64 (mx (fun i => mx (repK d i) (d.size - i)) i : Nat) ∧ Hid (Grew w wr)
theorem repK_le (d : ByteArray) (i k : Nat) : mx (repK d i) k ≤ k := mx_le fun j hj => by unfold repK; split <;> omega
set_option maxHeartbeats 8000000 in
theorem fnRepeated_any (d : ByteArray) (w : World) (hd : d.size ≤ 1073741824) (hmax : MaxIs w) :
    Calls Tryd.prog 18 #[.string d] w (GB true w) := by
  have HC3 := Lib.hid (fun u (hu : Grew w u) => awake_any u (hmax.grew hu))
  have HM := Lib.hid hmax
  clear hmax
  by_cases h3 : (60 : Int) < (d.size : Int)
  · go_enter Tryd.func18, Tryd.ntmps18
    go_wp2_with fail
    refine (HC3.out w (Kept.refl _ w)).mono ?_
    rintro e w2 ⟨rfl, k2⟩
    go_wp2
    go_ret
    exact ⟨rfl, k2⟩
  · have hd3 : d.size ≤ 60 := by omega
    have HLAW := Lib.hid (rep_law d)
    have HR := Lib.hid (fun u => repeated_any d u hd)
    have HOB := Lib.hid (fun i => (mx_le (fun j _ => Nat.le_trans (repK_le d j _) (Nat.sub_le _ _)) : mx (fun i => mx (repK d i) (d.size - i)) i ≤ d.size))
    go_enter Tryd.func18, Tryd.ntmps18
    go_wp2_with fail
    go_loopw [3, 13, 4, 5, 6] (fun mv iv _ _ _ wr => ReRel d w mv iv wr) (fun _ iv _ _ _ _ => d.size - (intOf iv).toNat)
    case atStart => exact ⟨0, by omega, rfl, rfl, Kept.refl _ _⟩
    case round =>
      obtain ⟨i, hi, rfl, rfl, HW⟩ := hrel
      by_cases hlt : i < d.size
      · have y1 : (i : Int) < (d.size : Int) := by omega
        have HP := Lib.hid (parts_any d i wr hd (by omega))
        have hMs : Hid (mx (fun i => mx (repK d i) (d.size - i)) (i + 1) = max (mx (fun i => mx (repK d i) (d.size - i)) i) (mx (repK d i) (d.size - i))) := rfl
        have hob := HOB.out i
        generalize hM1 : mx (fun i => mx (repK d i) (d.size - i)) (i + 1) = M1 at *
        generalize mx (fun i => mx (repK d i) (d.size - i)) i = M at *
        have HM1 := Lib.hid hM1
        clear hM1 HLAW HR HC3 HOB
        go_wp2_with fail
        refine HP.out.mono ?_
        rintro e w1 ⟨v1, rfl, ht1, k1⟩
        have HL := Lib.hid (lookups_any d (partsL d i (d.size - i)) v1 w1 hd (partsL_small hd) (by rw [partsL_len]; omega) ht1 (HM.out.grew (HW.out.trans k1)))
        have HK1 := Lib.hid (HW.out.trans k1)
        clear HP ht1 k1 HW
        go_wp2_with fail
        refine HL.out.mono ?_
        rintro e w2 ⟨vs, v, rfl, hv, hvl, hll, k2⟩
        rw [partsL_len] at hvl
        obtain ⟨a0, c0, rfl⟩ := hv.shape
        rw [hvl]
        have HV := Lib.hid hv; have HLL := Lib.hid hll; have HVL := Lib.hid hvl
        have HK2 := Lib.hid (HK1.out.trans k2)
        rw [hvl] at HV
        clear HL hv hll k2 HK1 hvl
        have e0 : Hid (M = max M (mx (repK d i) 0)) := by show M = max M 0; omega
        go_wp2_with fail
        go_loop [3, 22, 5, 6] (fun mv kv _ _ => ∃ k : Nat, k ≤ d.size - i ∧ kv = .int .i64 k ∧ mv = .int .i64 (max M (mx (repK d i) k) : Nat)) (fun _ kv _ _ => d.size - i - (intOf kv).toNat)
        case atStart => exact ⟨0, by omega, rfl, by rw [← e0.out]⟩
        case round =>
          obtain ⟨k, hk, rfl, rfl⟩ := hrel
          by_cases hlt2 : k < d.size - i
          · obtain ⟨b, o, c, e, _, hcell⟩ := HV.out.cells (by rw [HVL.out]; omega)
            rw [HVL.out] at e
            injection e with ea en ec
            subst ea ec
            obtain ⟨l, tl, pl⟩ := HLL.out k (by rw [HVL.out]; exact hlt2) (by rw [partsL_len]; exact hlt2)
            rw [partsL_get] at pl
            obtain ⟨al, cl, el⟩ := tl.1.shape
            have hck := hcell k (by rw [HVL.out]; exact hlt2)
            rw [el] at hck
            have c1 : w2.cell? ⟨b, o + k, none⟩ = some (.slice al l.length cl) := hck
            have y2 : (k : Int) < ((d.size - i : Nat) : Int) := by omega
            have hms : mx (repK d i) (k + 1) = max (mx (repK d i) k) (repK d i k) := rfl
            have hrk : repK d i k = if 1 < l.length then k + 1 else 0 := by rw [lookup_len pl]; rfl
            have hlb : l.length ≤ 60 := by rw [lookup_len pl]; exact Nat.le_trans (places_len _ _) hd3
            have hmb := repK_le d i k
            rw [hrk] at hms
            clear hcell hck tl pl el hrk e0
            generalize l.length = q at *
            by_cases f1 : 1 < q
            · rw [if_pos f1] at hms
              have y3 : (1 : Int) < (q : Int) := by omega
              have hmm : max M (mx (repK d i) (k + 1)) = max (max M (mx (repK d i) k)) (k + 1) := by rw [hms]; omega
              have HMM := Lib.hid hmm
              have hb0 : max M (mx (repK d i) k) ≤ 60 := by omega
              clear hms hmm hmb
              generalize hm1 : max M (mx (repK d i) (k + 1)) = m1 at *
              generalize max M (mx (repK d i) k) = m0 at *
              have HM1' := Lib.hid hm1
              clear hm1
              have em : (if m0 < k + 1 then ((k : Int) + 1) else (m0 : Int)) = (m1 : Int) := by rw [HMM.out]; split <;> omega
              have em2 : (if (m0 : Int) < (k : Int) + 1 then ((k : Int) + 1) else (m0 : Int)) = (m1 : Int) := by rw [HMM.out]; split <;> omega
              go_wp2
              go_round
              case rel => exact ⟨k + 1, by omega, by go_num, by rw [HM1'.out]⟩
              case measure => simp [intOf]; omega
            · rw [if_neg f1] at hms
              have y3 : ¬ (1 : Int) < (q : Int) := by omega
              have hmm : max M (mx (repK d i) (k + 1)) = max M (mx (repK d i) k) := by rw [hms]; omega
              have HMM := Lib.hid hmm
              clear hms hmm
              go_wp2
              go_round
              case rel => exact ⟨k + 1, by omega, by go_num, by rw [HMM.out]⟩
              case measure => simp [intOf]; omega
          · obtain rfl : k = d.size - i := by omega
            have hf : Hid (max M (mx (repK d i) (d.size - i)) = M1) := hMs.out.symm
            rw [hf.out]
            clear HV HLL HVL e0
            go_wp2
            go_roundw
            case rel => exact ⟨i + 1, by omega, by go_num, by rw [HM1.out], HK2⟩
            case measure => simp [intOf]; omega
      · obtain rfl : i = d.size := by omega
        rw [HLAW.out]
        have HR' := Lib.hid (HR.out wr)
        clear HLAW HR HOB
        generalize repN d = rn at *
        go_wp2_with fail
        refine HR'.out.mono ?_
        rintro e w4 ⟨rfl, hq⟩
        have HK4 := Lib.hid (Grew.drewEx HW.out hq)
        clear HR' hq
        go_wp2_with fail
        refine (HC3.out w4 HK4.out).mono ?_
        rintro e w5 ⟨rfl, k5⟩
        go_wp2
        go_ret
        exact ⟨rfl, HK4.out.trans k5⟩
end Go.Proofs.YtgmmenfnhppofaaDoor
