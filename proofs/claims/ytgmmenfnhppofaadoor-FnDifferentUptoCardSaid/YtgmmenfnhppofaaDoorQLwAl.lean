/- FnAlone. -/
import Derived.Test.YtgmmenfnhppofaaDoorQLwBe
set_option linter.unusedVariables false
namespace Go.Proofs.YtgmmenfnhppofaaDoor
open Go.RowKit Go.Mem Sais
set_option maxRecDepth 100000

def leastN (m k : Nat) : Nat := if m < k then m + 1 else 0
theorem leastN_end {d : ByteArray} {i : Nat} : leastN (othN d i d.size) (d.size - i) = aloneN d i := by
  have := othN_le d i d.size
  unfold leastN aloneN
  split <;> split <;> omega
set_option maxHeartbeats 8000000 in
theorem fnAlone_any (d : ByteArray) (ii : Int) (w : World) (hd : d.size ≤ 1073741824) (lo : -9223372036854775808 ≤ ii) (hi : ii < 9223372036854775808) (hmax : MaxIs w) :
    Calls Tryd.prog 12 #[.string d, .int .i64 ii] w (GB true w) := by
  have HC3 := Lib.hid (awake_any w hmax)
  have HM := Lib.hid hmax
  clear hmax
  by_cases h1 : ii < 0
  · go_enter Tryd.func12, Tryd.ntmps12
    go_wp2_with fail
    refine HC3.out.mono ?_
    rintro e w2 ⟨rfl, k2⟩
    go_wp2
    go_ret
    exact ⟨rfl, k2⟩
  · by_cases h2 : (d.size : Int) ≤ ii
    · go_enter Tryd.func12, Tryd.ntmps12
      go_wp2_with fail
      refine HC3.out.mono ?_
      rintro e w2 ⟨rfl, k2⟩
      go_wp2
      go_ret
      exact ⟨rfl, k2⟩
    · obtain ⟨i, rfl⟩ : ∃ n : Nat, ii = (n : Int) := ⟨ii.toNat, by omega⟩
      by_cases h3 : (300 : Int) < (d.size : Int)
      · go_enter Tryd.func12, Tryd.ntmps12
        go_wp2_with fail
        refine HC3.out.mono ?_
        rintro e w2 ⟨rfl, k2⟩
        go_wp2
        go_ret
        exact ⟨rfl, k2⟩
      · have HP := Lib.hid (parts_any d i w hd (by omega))
        have hd3 : d.size ≤ 300 := by omega
        go_enter Tryd.func12, Tryd.ntmps12
        go_wp2_with fail
        refine HP.out.mono ?_
        rintro e w1 ⟨v1, rfl, ht1, k1⟩
        have HL := Lib.hid (lookups_any d (partsL d i (d.size - i)) v1 w1 hd (partsL_small hd) (by rw [partsL_len]; omega) ht1 (HM.out.grew k1))
        have HK1 := Lib.hid k1
        clear HP ht1 k1 HC3
        go_wp2_with fail
        refine HL.out.mono ?_
        rintro e w2 ⟨vs, v, rfl, hv, hvl, hll, k2⟩
        rw [partsL_len] at hvl
        obtain ⟨a0, c0, rfl⟩ := hv.shape
        rw [hvl]
        have HV := Lib.hid hv; have HLL := Lib.hid hll; have HVL := Lib.hid hvl
        have HK2 := Lib.hid (HK1.out.trans k2)
        have HAL := Lib.hid (fun u => alone_any d i u hd (by omega))
        have HON := Lib.hid (fun k (h : i + k < d.size) => alone_one (d := d) (i := i) (k := k) h)
        have HEN := Lib.hid (leastN_end (d := d) (i := i))
        rw [hvl] at HV
        clear HL hv hll k2 HK1 hvl
        generalize othN d i d.size = m at *
        go_wp2_with fail
        go_loop [6, 30, 7, 8] (fun mv kv _ _ => ∃ k : Nat, k ≤ d.size - i ∧ kv = .int .i64 k ∧ mv = .int .i64 (leastN m k : Nat)) (fun _ kv _ _ => d.size - i - (intOf kv).toNat)
        case atStart => exact ⟨0, by omega, rfl, by unfold leastN; rw [if_neg (by omega)]; rfl⟩
        case round =>
          obtain ⟨k, hk, rfl, rfl⟩ := hrel
          by_cases hlt : k < d.size - i
          · obtain ⟨b, o, c, e, _, hcell⟩ := HV.out.cells (by rw [HVL.out]; omega)
            rw [HVL.out] at e
            injection e with ea en ec
            subst ea ec
            obtain ⟨l, tl, pl⟩ := HLL.out k (by rw [HVL.out]; exact hlt) (by rw [partsL_len]; exact hlt)
            rw [partsL_get] at pl
            obtain ⟨al, cl, el⟩ := tl.1.shape
            have hck := hcell k (by rw [HVL.out]; exact hlt)
            rw [el] at hck
            have c1 : w2.cell? ⟨b, o + k, none⟩ = some (.slice al l.length cl) := hck
            have y1 : (k : Int) < ((d.size - i : Nat) : Int) := by omega
            have hone := HON.out k (by omega)
            rw [← lookup_len pl] at hone
            have hlb : l.length ≤ 300 := by rw [lookup_len pl]; exact Nat.le_trans (places_len _ _) hd3
            have HONE := Lib.hid hone
            clear hcell hck tl pl el hone HON
            generalize l.length = q at *
            by_cases f1 : m < k
            · obtain rfl : q = 1 := HONE.out.2 (by omega)
              have e1 : leastN m k = m + 1 := by unfold leastN; rw [if_pos f1]
              have e2 : Hid (leastN m (k + 1) = m + 1) := by unfold leastN; exact if_pos (by omega)
              have z2 : ¬ (m : Int) + 1 = 0 := by omega
              have z3 : ((m : Int) + 1 == 0) = false := beq_false_of_ne z2
              rw [e1]
              go_wp2
              go_round
              case rel => exact ⟨k + 1, by omega, by go_num, by rw [e2.out]⟩
              case measure => simp [intOf]; omega
            · by_cases f2 : m = k
              · obtain rfl : q = 1 := HONE.out.2 (by omega)
                have e1 : leastN m k = 0 := by unfold leastN; rw [if_neg (by omega)]
                have e2 : Hid (leastN m (k + 1) = k + 1) := by unfold leastN; show (if m < k + 1 then m + 1 else 0) = k + 1; rw [if_pos (by omega)]; omega
                rw [e1]
                clear f2
                go_wp2
                go_round
                case rel => exact ⟨k + 1, by omega, by go_num, by rw [e2.out]; try go_num⟩
                case measure => simp [intOf]; omega
              · have hq : ¬ q = 1 := fun h => by have := HONE.out.1 h; omega
                have e1 : leastN m k = 0 := by unfold leastN; rw [if_neg (by omega)]
                have e2 : Hid (leastN m (k + 1) = 0) := by unfold leastN; exact if_neg (by omega)
                have z2 : ((q : Int) == 1) = false := beq_false_of_ne (by omega)
                have z3 : ¬ (q : Int) = 1 := by omega
                rw [e1]
                go_wp2
                go_round
                case rel => exact ⟨k + 1, by omega, by go_num, by rw [e2.out]; try go_num⟩
                case measure => simp [intOf]; omega
          · obtain rfl : k = d.size - i := by omega
            have HA' := Lib.hid (HAL.out w2)
            have hpos : 0 < d.size - i := by omega
            rw [HEN.out]
            clear HV HLL HVL HAL HON HEN
            generalize aloneN d i = an at *
            generalize d.size - i = n at *
            go_wp2_with fail
            refine HA'.out.mono ?_
            rintro e w4 ⟨rfl, hq⟩
            have HK4 := Lib.hid (Grew.drewEx HK2.out hq)
            clear HA' hq
            go_wp2
            go_ret
            exact ⟨rfl, HK4.out⟩
end Go.Proofs.YtgmmenfnhppofaaDoor
