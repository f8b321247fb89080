/- has[byte], FnSplit. -/
import Derived.Test.YtgmmenfnhppofaaDoorQLwPu
set_option linter.unusedVariables false
namespace Go.Proofs.YtgmmenfnhppofaaDoor
open Go.RowKit Go.Mem Sais
set_option maxRecDepth 100000

def hasB (s : ByteArray) (c : Nat) : Bool := (List.range s.size).any fun j => chr s j == c
theorem hasB_iff {s : ByteArray} {c : Nat} : hasB s c = true ↔ ∃ j, j < s.size ∧ chr s j = c := by
  unfold hasB
  rw [List.any_eq_true]
  constructor
  · rintro ⟨j, h1, h2⟩; exact ⟨j, List.mem_range.1 h1, by simpa using h2⟩
  · rintro ⟨j, h1, h2⟩; exact ⟨j, List.mem_range.2 h1, by simpa using h2⟩
set_option maxHeartbeats 4000000 in
theorem has_byte (s : ByteArray) (c b o cap : Nat) (w : World) (hs : s.size ≤ 1073741824) (hc : s.size ≤ cap) (h : Rd .u8 w b o s.size (fun j => (chr s j : Int))) :
    Calls Tryd.prog 34 #[.slice (some ⟨b, o, none⟩) s.size cap, .int .u8 (c : Int)] w fun e w' => e = .returned (.bool (hasB s c)) ∧ w = w' := by
  have H1 := Lib.hid h
  have HT := Lib.hid (fun (hh : ∃ j, j < s.size ∧ chr s j = c) => hasB_iff.2 hh)
  have HN := Lib.hid (fun (hh : ¬ ∃ j, j < s.size ∧ chr s j = c) => (Bool.eq_false_iff.2 fun e => hh (hasB_iff.1 e) : hasB s c = false))
  clear h
  generalize hasB s c = r at *
  go_enter Tryd.func34, Tryd.ntmps34
  go_wp2
  go_loop [9, 6] (fun i _ => ∃ k : Nat, k ≤ s.size ∧ i = .int .i64 k ∧ Hid (∀ j, j < k → chr s j ≠ c)) (fun i _ => s.size - (intOf i).toNat)
  case atStart => exact ⟨0, by omega, rfl, fun j h => by omega⟩
  case round =>
    obtain ⟨k, hk, rfl, HK⟩ := hrel
    by_cases hlt : k < s.size
    · have c1 : w.cell? ⟨b, o + k, none⟩ = some (.int .u8 (chr s k : Int)) := H1.out k hlt
      have y1 : (k : Int) < (s.size : Int) := by omega
      by_cases hx : chr s k = c
      · obtain rfl := HT.out ⟨k, hlt, hx⟩
        rw [hx] at c1
        clear hx HK HT HN
        go_wp2
        go_ret
        exact ⟨rfl, rfl⟩
      · have y2 : ((chr s k : Int) == (c : Int)) = false := by simp; omega
        have HK2 : Hid (∀ j, j < k + 1 → chr s j ≠ c) := fun j h2 => by
          by_cases e : j = k
          · subst e; exact hx
          · exact HK.out j (by omega)
        clear HK HT HN
        generalize chr s k = y at *
        have y3 : ¬ (y : Int) = (c : Int) := by omega
        go_wp2
        go_round
        case rel => exact ⟨k + 1, by omega, by go_num, HK2⟩
        case measure => simp [intOf]; omega
    · obtain rfl := HN.out (fun ⟨j, h1, h2⟩ => HK.out j (by omega) h2)
      obtain rfl : k = s.size := by omega
      go_wp2
      go_ret
      exact ⟨rfl, rfl⟩
theorem ahead_le (d s : ByteArray) (f : Nat) : ahead d s f ≤ d.size := Nat.le_trans (List.length_filter_le _ _) (places_len d s)
def SpRel (d s : ByteArray) (w : World) (nv fv iv : Value) (wr : World) : Prop := ∃ k f : Nat, k ≤ d.size ∧ f ≤ k ∧ iv = .int .i64 k ∧ fv = .int .i64 f ∧ nv = .int .i64 (ahead d s f : Nat) ∧ Hid (Grew w wr)
set_option maxHeartbeats 4000000 in
theorem fnSplit_any (d s : ByteArray) (c : Int) (w : World) (hd : d.size ≤ 536870912) (hs : s.size ≤ 1073741824) (c0 : 0 ≤ c) (c1 : c < 256) (hmax : MaxIs w) :
    Calls Tryd.prog 8 #[.string d, .string s, .int .u8 c] w (GB true w) := by
  have HC3 := Lib.hid (fun u (hu : Grew w u) => awake_any u (hmax.grew hu))
  have HM := Lib.hid hmax
  obtain ⟨cc, rfl⟩ : ∃ n : Nat, c = (n : Int) := ⟨c.toNat, by omega⟩
  have HHB := Lib.hid (has_byte s cc w.heap.size 0 (grownCap w s.size 0 5) (strW w s) hs (grownCap_ge _ _ _ _) (strW_rd w s))
  have hcv := run_str w s
  have HKs := Lib.hid (strW_grew w s)
  clear hmax
  by_cases hb : hasB s cc = true
  · rw [hb] at HHB
    clear hb
    go_enter Tryd.func8, Tryd.ntmps8
    go_wp2_with fail
    refine HHB.out.mono ?_
    rintro e w' ⟨rfl, rfl⟩
    go_wp2_with fail
    refine (HC3.out _ HKs.out).mono ?_
    rintro e w2 ⟨rfl, k2⟩
    go_wp2
    go_ret
    exact ⟨rfl, HKs.out.trans k2⟩
  · have HNO : Hid (∀ j, j < s.size → chr s j ≠ cc) := fun j h1 h2 => hb (hasB_iff.2 ⟨j, h1, h2⟩)
    rw [Bool.eq_false_iff.2 hb] at HHB
    clear hb
    go_enter Tryd.func8, Tryd.ntmps8
    go_wp2_with fail
    refine HHB.out.mono ?_
    rintro e w' ⟨rfl, rfl⟩
    clear HHB hcv
    generalize strW w s = w1 at *
    go_wp2_with fail
    go_loopw [7, 8, 17, 9] (fun nv fv iv _ wr => SpRel d s w nv fv iv wr) (fun _ _ i _ _ => d.size - (intOf i).toNat)
    case atStart => exact ⟨0, 0, by omega, by omega, rfl, rfl, by rw [ahead_zero]; rfl, HKs⟩
    case round =>
      obtain ⟨k, f, hk, hf, rfl, rfl, rfl, HW⟩ := hrel
      have hal := ahead_le d s f
      by_cases hlt : k < d.size
      · have y1 : (k : Int) < (d.size : Int) := by omega
        have y2 : (f : Int) ≤ (k : Int) := by omega
        have y3 : (k : Int) ≤ (d.size : Int) := by omega
        have g1 := chr_get d k hlt
        by_cases hx : chr d k = cc
        · have z1 : ((d[k].toNat : Int) == (cc : Int)) = true := by rw [g1, hx]; simp
          have z2 : (d[k].toNat : Int) = (cc : Int) := by rw [g1, hx]
          have hst := ahead_step d s f k hf (by omega) (fun p h1 _ _ h2 => split_mid hlt hx HNO.out h1 h2)
          have hal2 := ahead_le d s (k + 1)
          have HC1 := Lib.hid (lookup_any (d.extract f k) s wr (by rw [size_extract' (by omega)]; omega) hs (HM.out.grew HW.out))
          have HST := Lib.hid hst
          clear hst g1 hx HNO HC3 HM
          go_wp2_with fail
          refine HC1.out.mono ?_
          rintro e w3 ⟨l1, v1, rfl, i1, hp1, k1⟩
          obtain ⟨a1, c1, rfl⟩ := i1.shape
          have hll : ahead d s f + l1.length = ahead d s (k + 1) := by rw [lookup_len hp1, HST.out]
          have HLL := Lib.hid hll
          have hlb : l1.length ≤ 536870912 := by omega
          have HK1 := Lib.hid (HW.out.trans k1)
          clear HC1 HST i1 hp1 k1 hll HW z1 z2
          generalize l1.length = q at *
          generalize ahead d s f = p at *
          go_wp2
          go_roundw
          case rel => exact ⟨k + 1, k + 1, by omega, by omega, by go_num, by go_num, by rw [← HLL.out]; go_num, HK1⟩
          case measure => simp [intOf]; omega
        · have z1 : ((d[k].toNat : Int) == (cc : Int)) = false := by rw [g1]; simp; omega
          have z2 : ¬ (d[k].toNat : Int) = (cc : Int) := by rw [g1]; omega
          clear g1
          go_wp2
          go_roundw
          case rel => exact ⟨k + 1, f, by omega, by omega, by go_num, rfl, rfl, HW⟩
          case measure => simp [intOf]; omega
      · obtain rfl : k = d.size := by omega
        have y2 : (f : Int) ≤ (d.size : Int) := by omega
        have hst := ahead_step d s f d.size hf (Nat.le_refl _) (fun p h1 _ _ h2 => split_end h1)
        rw [ahead_all] at hst
        have HST := Lib.hid hst
        have HC1 := Lib.hid (lookup_any (d.extract f d.size) s wr (by rw [size_extract' (Nat.le_refl _)]; omega) hs (HM.out.grew HW.out))
        have hpl := places_len d s
        clear hst HNO
        go_wp2_with fail
        refine HC1.out.mono ?_
        rintro e w3 ⟨l1, v1, rfl, i1, hp1, k1⟩
        obtain ⟨a1, c1, rfl⟩ := i1.shape
        have hll : ahead d s f + l1.length = (places d s).length := by rw [lookup_len hp1, HST.out]
        have HLL := Lib.hid hll
        have hlb : l1.length ≤ 536870912 := by omega
        have HK1 := Lib.hid (HW.out.trans k1)
        have HC2 := Lib.hid (lookup_any d s w3 (by omega) hs (HM.out.grew HK1.out))
        clear HC1 HST i1 hp1 k1 hll HW HM
        generalize l1.length = q at *
        generalize ahead d s f = p at *
        go_wp2_with fail
        refine HC2.out.mono ?_
        rintro e w4 ⟨l2, v2, rfl, i2, hp2, k2⟩
        obtain ⟨a2, c2, rfl⟩ := i2.shape
        have hl2 : l2.length = p + q := by rw [lookup_len hp2, HLL.out]
        rw [hl2]
        have HK2 := Lib.hid (HK1.out.trans k2)
        clear HC2 i2 hp2 k2 hl2 HLL HK1
        go_wp2_with fail
        refine (HC3.out w4 HK2.out).mono ?_
        rintro e w5 ⟨rfl, k5⟩
        go_wp2
        go_ret
        exact ⟨rfl, HK2.out.trans k5⟩
end Go.Proofs.YtgmmenfnhppofaaDoor
