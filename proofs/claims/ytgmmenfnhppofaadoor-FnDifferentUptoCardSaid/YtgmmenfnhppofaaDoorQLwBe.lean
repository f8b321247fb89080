/- FnBefore. -/
import Derived.Test.YtgmmenfnhppofaaDoorQBef
set_option linter.unusedVariables false
namespace Go.Proofs.YtgmmenfnhppofaaDoor
open Go.RowKit Go.Mem Sais
set_option maxRecDepth 100000

theorem partsL_get (d : ByteArray) (i n k : Nat) (h : k < (partsL d i n).length) : (partsL d i n)[k] = part d i k := by
  simp [partsL]
theorem partsL_small {d : ByteArray} {i n : Nat} (hd : d.size ≤ 1073741824) : ∀ t ∈ partsL d i n, t.size ≤ 1073741824 := fun t ht => by
  unfold partsL at ht
  obtain ⟨k, _, rfl⟩ := List.mem_map.1 ht
  unfold part
  rw [ByteArray.size_extract]; omega
def BeRel (d : ByteArray) (i : Nat) (w : World) (mv kv : Value) (wr : World) : Prop := ∃ k : Nat, k ≤ d.size - i ∧ kv = .int .i64 k ∧ mv = .int .i64 (min k (befN d i) : Nat) ∧ Hid (Grew w wr)
/-- The head of a sorted list of places. -/
theorem head_places {d t : ByteArray} {l : List Int} (hp : l.Perm (ints (places d t))) (h0 : 0 < (places d t).length) : ∃ p rest, places d t = p :: rest ∧ srt l = (p : Int) :: ints rest := by
  rw [lookup_srt hp]
  cases h : places d t with
  | nil => rw [h] at h0; simp at h0
  | cons p rest => exact ⟨p, rest, rfl, rfl⟩
set_option maxHeartbeats 8000000 in
theorem fnBefore_any (d : ByteArray) (ii : Int) (w : World) (hd : d.size ≤ 1073741824) (lo : -9223372036854775808 ≤ ii) (hi : ii < 9223372036854775808) (hmax : MaxIs w) :
    Calls Tryd.prog 13 #[.string d, .int .i64 ii] w (GB true w) := by
  have HC3 := Lib.hid (awake_any w hmax)
  have HM := Lib.hid hmax
  clear hmax
  by_cases h1 : ii < 0
  · go_enter Tryd.func13, Tryd.ntmps13
    go_wp2_with fail
    refine HC3.out.mono ?_
    rintro e w2 ⟨rfl, k2⟩
    go_wp2
    go_ret
    exact ⟨rfl, k2⟩
  · by_cases h2 : (d.size : Int) ≤ ii
    · go_enter Tryd.func13, Tryd.ntmps13
      go_wp2_with fail
      refine HC3.out.mono ?_
      rintro e w2 ⟨rfl, k2⟩
      go_wp2
      go_ret
      exact ⟨rfl, k2⟩
    · obtain ⟨i, rfl⟩ : ∃ n : Nat, ii = (n : Int) := ⟨ii.toNat, by omega⟩
      by_cases h3 : (300 : Int) < (d.size : Int)
      · go_enter Tryd.func13, Tryd.ntmps13
        go_wp2_with fail
        refine HC3.out.mono ?_
        rintro e w2 ⟨rfl, k2⟩
        go_wp2
        go_ret
        exact ⟨rfl, k2⟩
      · have HP := Lib.hid (parts_any d i w hd (by omega))
        have hd3 : d.size ≤ 300 := by omega
        go_enter Tryd.func13, Tryd.ntmps13
        go_wp2_with fail
        refine HP.out.mono ?_
        rintro e w1 ⟨v1, rfl, ht1, k1⟩
        have HL := Lib.hid (lookups_any d (partsL d i (d.size - i)) v1 w1 hd (partsL_small hd) (by rw [partsL_len]; omega) ht1 (HM.out.grew k1))
        have HK1 := Lib.hid k1
        clear HP ht1 k1 HC3
        go_wp2_with fail
        refine HL.out.mono ?_
        rintro e w2 ⟨vs, v, rfl, hv, hvl, hll, k2⟩
        rw [partsL_len] at hvl
        obtain ⟨a0, c0, rfl⟩ := hv.shape
        rw [hvl]
        have HV := Lib.hid hv; have HLL := Lib.hid hll; have HVL := Lib.hid hvl
        have HK2 := Lib.hid (HK1.out.trans k2)
        have hbl := befN_le d i
        have HBF := Lib.hid (fun u => before_any d i u hd (by omega))
        rw [hvl] at HV
        clear HL hv hll k2 HK1 hvl
        go_wp2_with fail
        go_loopw [5, 28, 6, 7] (fun mv kv _ _ wr => BeRel d i w2 mv kv wr) (fun _ kv _ _ _ => d.size - i - (intOf kv).toNat)
        case atStart => exact ⟨0, by omega, rfl, by rw [Nat.zero_min]; rfl, Kept.refl _ _⟩
        case round =>
          obtain ⟨k, hk, rfl, rfl, HW⟩ := hrel
          by_cases hlt : k < d.size - i
          · obtain ⟨b, o, c, e, _, hcell⟩ := HV.out.cells (by rw [HVL.out]; omega)
            rw [HVL.out] at e
            injection e with ea en ec
            subst ea ec
            obtain ⟨l, tl, pl⟩ := HLL.out k (by rw [HVL.out]; exact hlt) (by rw [partsL_len]; exact hlt)
            rw [partsL_get] at pl
            obtain ⟨al, cl, el⟩ := tl.1.shape
            have hck := hcell k (by rw [HVL.out]; exact hlt)
            rw [el] at hck
            have c1 : wr.cell? ⟨b, o + k, none⟩ = some (.slice al l.length cl) := (HW.out.cell _ _ (World.block_lt_of_cell? w2 _ hck) fun h => h).trans hck
            have y1 : (k : Int) < ((d.size - i : Nat) : Int) := by omega
            have hpos : 0 < (places d (part d i k)).length := part_pos (by omega)
            have hll : l.length = (places d (part d i k)).length := lookup_len pl
            obtain ⟨p, rest, hp1, hp2⟩ := head_places pl hpos
            have hbh := bef_head (d := d) (i := i) (k := k) (by omega) hp1
            have hpl := places_len d (part d i k)
            have hpd : p ≤ d.size := by
              have : p ∈ places d (part d i k) := by rw [hp1]; simp
              have := (mem_places.1 this).2.1; omega
            have htl := tl.1
            rw [el] at htl
            have HR := Lib.hid (rising_il (by omega) (htl.grew HW.out))
            have hl0 : 0 < l.length := by omega
            have hl1 : l.length ≤ 300 := by omega
            have z1 : ((l.length : Int) == 0) = false := beq_false_of_ne (by omega)
            have z2 : ¬ l.length = 0 := by omega
            have HBH := Lib.hid hbh
            have HHP := Lib.hid hp2
            clear hcell hck hpos hll hp1 hp2 hbh hpl htl tl pl el
            go_wp2_with fail
            refine HR.out.mono ?_
            rintro e w3 ⟨v3, rfl, i3, k3⟩
            have i3' : IL ((p : Int) :: ints rest) w3 v3 := by rw [← HHP.out]; exact i3
            obtain ⟨b3, o3, c3, rfl, hc3, hcell3⟩ := i3'.cells (by simp)
            have c3' : w3.cell? ⟨b3, o3, none⟩ = some (.int .i64 (p : Int)) := hcell3 0 (by simp)
            obtain ⟨n3, hn3⟩ : ∃ n3, ((p : Int) :: ints rest).length = n3 := ⟨_, rfl⟩
            rw [hn3]
            have y5 : 0 < (n3 : Int) := by rw [← hn3]; simp
            have y6 : 0 < n3 := by omega
            have HK3 := Lib.hid (HW.out.trans k3)
            clear HR i3 i3' hcell3 hc3 k3 hn3 HHP
            by_cases hpi : p < i
            · have y7 : (p : Int) < (i : Int) := by omega
              have hle := HBH.out.1 hpi
              go_wp2
              go_roundw
              case rel => exact ⟨k + 1, by omega, by go_num, by rw [Nat.min_eq_left hle]; go_num, HK3⟩
              case measure => simp [intOf]; omega
            · have y7 : ¬ (p : Int) < (i : Int) := by omega
              have hle : ¬ k + 1 ≤ befN d i := fun h => hpi (HBH.out.2 h)
              have hmm : min (k + 1) (befN d i) = min k (befN d i) := by omega
              go_wp2
              go_roundw
              case rel => exact ⟨k + 1, by omega, by go_num, by rw [hmm], HK3⟩
              case measure => simp [intOf]; omega
          · obtain rfl : k = d.size - i := by omega
            have hmb : min (d.size - i) (befN d i) = befN d i := by omega
            rw [hmb]
            have HB' := Lib.hid (HBF.out wr)
            have HKF := Lib.hid (HK2.out.trans HW.out)
            clear HV HLL HVL HBF HW HK2 hmb
            generalize befN d i = bn at *
            generalize d.size - i = n at *
            go_wp2_with fail
            refine HB'.out.mono ?_
            rintro e w4 ⟨rfl, hq⟩
            have HK4 := Lib.hid (Grew.drewEx HKF.out hq)
            clear HB' hq
            go_wp2
            go_ret
            exact ⟨rfl, HK4.out⟩
end Go.Proofs.YtgmmenfnhppofaaDoor
