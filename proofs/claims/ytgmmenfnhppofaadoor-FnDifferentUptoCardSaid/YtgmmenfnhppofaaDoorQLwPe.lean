/- FnPeriod, FnApart. -/
import Derived.Test.YtgmmenfnhppofaaDoorQLwIn
set_option linter.unusedVariables false
namespace Go.Proofs.YtgmmenfnhppofaaDoor
open Go.RowKit Go.Mem Sais
set_option maxRecDepth 100000

theorem Grew.drewEx {w w1 w2 : World} (h : Grew w w1) (h2 : ∃ q, w2 = w1.drewN q) : Grew w w2 := by
  obtain ⟨q, rfl⟩ := h2; exact h.drewN q
theorem places_big {s t : ByteArray} (h : s.size ≤ 1073741824) : (places s t).length ≤ 1073741824 := Nat.le_trans (places_len s t) h
theorem mem_perm_ints {s t : ByteArray} {l : List Int} (h : l.Perm (ints (places s t))) (i : Nat) : ((i : Int) ∈ l) ↔ i ∈ places s t := by
  rw [h.mem_iff, mem_ints]; simp
set_option maxHeartbeats 4000000 in
theorem fnPeriod_any (s : ByteArray) (p : Int) (w : World) (hs : s.size ≤ 1073741824) (lo : -9223372036854775808 ≤ p) (hi : p < 9223372036854775808) (hmax : MaxIs w) :
    Calls Tryd.prog 6 #[.string s, .int .i64 p] w (GB true w) := by
  have HC3 := Lib.hid (fun u (hu : Grew w u) => awake_any u (hmax.grew hu))
  have HM := Lib.hid hmax
  clear hmax
  by_cases h1 : p < 1
  · go_enter Tryd.func6, Tryd.ntmps6
    go_wp2_with fail
    refine (HC3.out w (Kept.refl _ w)).mono ?_
    rintro e w2 ⟨rfl, k2⟩
    go_wp2
    go_ret
    exact ⟨rfl, k2⟩
  · by_cases h2 : (s.size : Int) ≤ p
    · go_enter Tryd.func6, Tryd.ntmps6
      go_wp2_with fail
      refine (HC3.out w (Kept.refl _ w)).mono ?_
      rintro e w2 ⟨rfl, k2⟩
      go_wp2
      go_ret
      exact ⟨rfl, k2⟩
    · obtain ⟨n, rfl⟩ : ∃ n : Nat, p = (n : Int) := ⟨p.toNat, by omega⟩
      have HC1 := Lib.hid (lookup_any s (s.extract n s.size) w hs (by rw [size_extract' (Nat.le_refl _)]; omega) HM.out)
      have HC2 := Lib.hid (fun u => isPeriod_any s n u hs (by omega))
      have HLAW := Lib.hid (period_law s n (by omega) (by omega))
      have y1 : (n : Int) ≤ (s.size : Int) := by omega
      go_enter Tryd.func6, Tryd.ntmps6
      go_wp2_with fail
      refine HC1.out.mono ?_
      rintro e w1 ⟨l1, v1, rfl, h1, hp1, k1⟩
      have hb : decide ((0 : Int) ∈ l1) = perB s n := by
        rw [Bool.eq_iff_iff, perB_iff, decide_eq_true_eq]
        exact (mem_perm_ints hp1 0).trans HLAW.out
      have HC4 := Lib.hid (has_int l1 v1 0 w1 h1 (by rw [lookup_len hp1]; exact places_big hs))
      rw [hb] at HC4
      have HK := Lib.hid k1
      clear HC1 HLAW h1 hp1 k1 hb
      go_wp2_with fail
      refine HC4.out.mono ?_
      rintro e w' ⟨rfl, rfl⟩
      clear HC4
      go_wp2_with fail
      refine (HC2.out w1).mono ?_
      rintro e w2 ⟨rfl, hq⟩
      have HK2 := Lib.hid (Grew.drewEx HK.out hq)
      clear HC2 hq HK
      generalize perB s n = r at *
      go_wp2_with fail
      refine (HC3.out w2 HK2.out).mono ?_
      rintro e w3 ⟨rfl, k3⟩
      go_wp2
      go_ret
      exact ⟨rfl, HK2.out.trans k3⟩
/-- Two places that follow each other. -/
theorem apart_pair {d s : ByteArray} {m : Nat} (h : m + 1 < (ints (places d s)).length) : ∃ p c : Nat, 0 < c ∧ p + c ≤ d.size ∧ (ints (places d s))[m] = (p : Int) ∧ (ints (places d s))[m + 1] = ((p + c : Nat) : Int) ∧ perB s c = true := by
  have hl : (ints (places d s)).length = (places d s).length := ints_length _
  have h1 : (ints (places d s))[m] = (((places d s)[m]'(by omega) : Nat) : Int) := by simp [ints, nint]
  have h2 : (ints (places d s))[m + 1] = (((places d s)[m + 1]'(by omega) : Nat) : Int) := by simp [ints, nint]
  have hp := (places_lt d s)
  rw [List.pairwise_iff_getElem] at hp
  have hlt := hp m (m + 1) (by omega) (by omega) (by omega)
  have o1 := (mem_places.1 (List.getElem_mem (show m < (places d s).length by omega))).2
  have o2 := (mem_places.1 (List.getElem_mem (show m + 1 < (places d s).length by omega))).2
  generalize (places d s)[m]'(by omega) = p at *
  generalize (places d s)[m + 1]'(by omega) = q at *
  refine ⟨p, q - p, by omega, by have := o2.1; omega, h1, by rw [h2, show p + (q - p) = q by omega], perB_iff.2 (per_of_occ o1 o2 (by omega))⟩
set_option maxHeartbeats 4000000 in
theorem fnApart_any (d s : ByteArray) (w : World) (hd : d.size ≤ 1073741824) (hs : s.size ≤ 1073741824) (hmax : MaxIs w) :
    Calls Tryd.prog 3 #[.string d, .string s] w (GB true w) := by
  have HC3 := Lib.hid (fun u (hu : Grew w u) => awake_any u (hmax.grew hu))
  have HC1 := Lib.hid (lookup_any d s w hd hs hmax)
  have HC2 := Lib.hid (fun c u (hc : c ≤ 1073741824) => isPeriod_any s c u hs hc)
  clear hmax
  go_enter Tryd.func3, Tryd.ntmps3
  go_wp2_with fail
  refine HC1.out.mono ?_
  rintro e w1 ⟨l1, v1, rfl, h1, hp1, k1⟩
  have HC4 := Lib.hid (rising_il (by rw [lookup_len hp1]; exact places_big hd) h1)
  have HS := Lib.hid (lookup_srt hp1)
  have HK := Lib.hid k1
  clear HC1 h1 hp1 k1
  go_wp2_with fail
  refine HC4.out.mono ?_
  rintro e w2 ⟨v2, rfl, h2, k2⟩
  rw [HS.out] at h2
  have HK2 := Lib.hid (HK.out.trans k2)
  have HI := Lib.hid h2
  have HP := Lib.hid (fun m h => apart_pair (d := d) (s := s) (m := m) h)
  have hL : (ints (places d s)).length ≤ 1073741824 := by rw [ints_length]; exact places_big hd
  clear HC4 HS HK h2 k2
  obtain ⟨a2, c2, rfl⟩ := HI.out.shape
  go_wp2_with fail
  go_loopw [6, 7] (fun i _ wr => ∃ m : Nat, m ≤ (ints (places d s)).length ∧ i = .int .i64 ((m : Int) + 1) ∧ Hid (∃ q, wr = w2.drewN q)) (fun i _ _ => (ints (places d s)).length + 1 - (intOf i).toNat)
  case atStart => exact ⟨0, by omega, rfl, ⟨0, rfl⟩⟩
  case round =>
    obtain ⟨m, hm, rfl, HQ⟩ := hrel
    by_cases hlt : m + 1 < (ints (places d s)).length
    · obtain ⟨b, o, c, e, hc, hcell⟩ := HI.out.cells (by omega)
      injection e with ea en ec
      subst ea ec
      obtain ⟨p, dd, hdd, hpd, e1, e2, hper⟩ := HP.out m hlt
      have c1 : wr.cell? ⟨b, o + m, none⟩ = some (.int .i64 (p : Int)) := by obtain ⟨q, rfl⟩ := HQ.out; rw [← e1]; exact hcell m (by omega)
      have c2 : wr.cell? ⟨b, o + (m + 1), none⟩ = some (.int .i64 ((p : Int) + (dd : Int))) := by obtain ⟨q, rfl⟩ := HQ.out; rw [← Int.natCast_add, ← e2]; exact hcell (m + 1) hlt
      have y1 : (m : Int) + 1 < ((ints (places d s)).length : Int) := by omega
      have y2 : (m : Int) < ((ints (places d s)).length : Int) := by omega
      have y3 : ((m : Int) + 1).toNat = m + 1 := by omega
      have y4 : (0 : Int) ≤ (m : Int) + 1 := by omega
      have z1 : IntKind.i64.wrap (m : Int) = (m : Int) := IntWalk.i64_in _ (by omega)
      have z2 : IntKind.i64.wrap (dd : Int) = (dd : Int) := IntWalk.i64_in _ (by omega)
      have z3 : IntKind.i64.wrap ((m : Int) + 1 - 1) = (m : Int) := by rw [Int.add_sub_cancel]; exact z1
      have z4 : IntKind.i64.wrap ((p : Int) + (dd : Int) - (p : Int)) = (dd : Int) := by rw [Int.add_comm, Int.add_sub_cancel]; exact z2
      have u1 : ¬ (dd : Int) < 1 := by omega
      clear e1 e2 hcell
      go_wp2_with fail
      go_quiet (fail)
      clear z1 z2 z3 z4
      by_cases hds : dd < s.size
      · have u2 : (dd : Int) < (s.size : Int) := by omega
        have HC5 := Lib.hid (HC2.out dd (wr.drewN nq) (by omega))
        rw [hper] at HC5
        go_wp2_with fail
        refine HC5.out.mono ?_
        rintro e w3 ⟨rfl, q3, rfl⟩
        clear HC5 hper
        go_wp2
        go_roundw
        case rel => exact ⟨m + 1, by omega, by go_num, drewEx HQ.out _⟩
        case measure => simp [intOf]; omega
      · have u2 : ¬ (dd : Int) < (s.size : Int) := by omega
        clear hper
        go_wp2
        go_roundw
        case rel => exact ⟨m + 1, by omega, by go_num, drewEx HQ.out _⟩
        case measure => simp [intOf]; omega
    · have y1 : ¬ (m : Int) + 1 < ((ints (places d s)).length : Int) := by omega
      have HG := Lib.hid (Grew.drewEx HK2.out HQ.out)
      go_wp2_with fail
      refine (HC3.out wr HG.out).mono ?_
      rintro e w3 ⟨rfl, k3⟩
      go_wp2
      go_ret
      exact ⟨rfl, HG.out.trans k3⟩
end Go.Proofs.YtgmmenfnhppofaaDoor
