/- FnTurned, Times, FnTimes. -/
import Derived.Test.YtgmmenfnhppofaaDoorQLwCh
set_option linter.unusedVariables false
namespace Go.Proofs.YtgmmenfnhppofaaDoor
open Go.RowKit Go.Mem Sais
set_option maxRecDepth 100000

theorem range_yes {f : Nat → Bool} {k : Nat} (h : f k = true) : ints ((List.range (k + 1)).filter f) = ints ((List.range k).filter f) ++ [(k : Int)] := by
  rw [List.range_succ, List.filter_append]; simp [ints, nint, h]
theorem range_no {f : Nat → Bool} {k : Nat} (h : f k = false) : ints ((List.range (k + 1)).filter f) = ints ((List.range k).filter f) := by
  rw [List.range_succ, List.filter_append]; simp [h]
theorem range_len (f : Nat → Bool) (k : Nat) : (ints ((List.range k).filter f)).length ≤ k := by
  rw [ints_length]; exact Nat.le_trans (List.length_filter_le _ _) (by simp)
/-- The relation of a loop over numbers that gathers those that f takes. -/
def RgRel (f : Nat → Bool) (n : Nat) (w : World) (ov iv : Value) (wr : World) : Prop := ∃ k : Nat, k ≤ n ∧ iv = .int .i64 k ∧ Hid (OL w.heap.size (ints ((List.range k).filter f)) wr ov) ∧ Hid (Grew w wr)
def rotB (s : ByteArray) (r : Nat) : Bool := decide (rot s r)
theorem rotB_eq (s : ByteArray) (r : Nat) : ((s.extract r s.size ++ s.extract 0 r).toList == s.toList) = rotB s r := by
  unfold rotB
  rw [Bool.eq_iff_iff, beq_iff_eq, decide_eq_true_eq, toList_inj]
  exact Iff.rfl
set_option maxHeartbeats 4000000 in
theorem fnTurned_any (s : ByteArray) (w : World) (hs : s.size ≤ 536870912) (hmax : MaxIs w) :
    Calls Tryd.prog 11 #[.string s] w (GB true w) := by
  have HC3 := Lib.hid (fun u (hu : Grew w u) => awake_any u (hmax.grew hu))
  have HM := Lib.hid hmax
  clear hmax
  by_cases h0 : s.size = 0
  · have hn : s.toList = [] := toList_nil.2 h0
    go_enter Tryd.func11, Tryd.ntmps11
    go_wp2_with fail
    refine (HC3.out w (Kept.refl _ w)).mono ?_
    rintro e w2 ⟨rfl, k2⟩
    go_wp2
    go_ret
    exact ⟨rfl, k2⟩
  · have hn : ¬ s.toList = [] := fun h => h0 (toList_nil.1 h)
    have hn2 : s.toList.isEmpty = false := by simpa using hn
    have HLW := Lib.hid (turned_law (s := s) (by omega))
    have HLN := Lib.hid (turns_len (s := s) (by omega))
    go_enter Tryd.func11, Tryd.ntmps11
    go_wp2_with fail
    go_loopw [3, 11, 4] (fun ov i _ wr => RgRel (rotB s) (s.size + 1) w ov i wr) (fun _ i _ _ => s.size + 1 - (intOf i).toNat)
    case atStart => exact ⟨0, by omega, rfl, OL.nil _ _, Kept.refl _ _⟩
    case round =>
      obtain ⟨k, hk, rfl, HO, HW⟩ := hrel
      by_cases hlt : k < s.size + 1
      · have y1 : (k : Int) < (s.size : Int) + 1 := by omega
        have y2 : (k : Int) ≤ (s.size : Int) := by omega
        have x1 : ¬ 9223372036854775807 < s.size - k + min k s.size := by omega
        have he := rotB_eq s k
        by_cases hf : rotB s k = true
        · rw [hf] at he
          go_wp2_with fail
          go_quiet (fail)
          obtain ⟨v', w', happ, ho', hk'⟩ := append_int (w := wr.drewN nq) (k : Int) 3 22 (HW.out.drewN nq) HO.out (by have := range_len (rotB s) k; omega)
          rw [← range_yes hf] at ho'
          have HO' := Lib.hid ho'; have HK' := Lib.hid hk'
          clear ho' hk' HO HW hf he x1
          go_wp2_with (at_builtin; refine wpList_append_run rfl _ _ _ _ rfl _ _ rfl rfl _ _ happ ?_)
          go_roundw
          case rel => exact ⟨k + 1, by omega, by go_num, HO', HK'⟩
          case measure => simp [intOf]; omega
        · have hf : rotB s k = false := by simpa using hf
          rw [hf] at he
          have HO' : Hid (OL w.heap.size (ints ((List.range (k + 1)).filter (rotB s))) wr u3) := by rw [range_no hf]; exact HO.out
          clear HO hf
          go_wp2_with fail
          go_quiet (fail)
          clear x1 he
          go_wp2
          go_roundw
          case rel => exact ⟨k + 1, by omega, by go_num, HO', HW.out.drewN nq⟩
          case measure => simp [intOf]; omega
      · obtain rfl : k = s.size + 1 := by omega
        have x1 : ¬ 9223372036854775807 < s.size + s.size := by omega
        have hI := HO.out.il
        have ht : (List.range (s.size + 1)).filter (rotB s) = turns s := rfl
        rw [ht] at hI
        obtain ⟨a3, c3, rfl⟩ := hI.shape
        have HI := Lib.hid hI
        have HC1 := Lib.hid (lookup_any (s ++ s) s wr (by rw [ByteArray.size_append]; omega) (by omega) (HM.out.grew HW.out))
        have hL : (ints (turns s)).length = (turns s).length := ints_length _
        obtain ⟨W, hW⟩ : ∃ W, (turns s).length = W := ⟨_, rfl⟩
        have hWb : W ≤ s.size + 1 := by rw [← hW]; unfold turns; exact Nat.le_trans (List.length_filter_le _ _) (by simp)
        have hN := HLN.out
        rw [hW] at hN hL
        rw [hL]
        obtain ⟨g1, g2⟩ := hN
        have g3 : (s.size : Int) % ((W : Int) - 1) = 0 := by
          have : (s.size : Int) % (((W - 1 : Nat)) : Int) = 0 := by rw [← Int.natCast_emod, g2]; rfl
          rwa [show (((W - 1 : Nat)) : Int) = (W : Int) - 1 by omega] at this
        have g4 : ¬ (W : Int) - 1 = 0 := by omega
        have HWW := Lib.hid (⟨hL, hWb⟩ : (ints (turns s)).length = W ∧ W ≤ s.size + 1)
        clear hI ht HO HLN hL g2 hW
        go_wp2_with fail
        refine HC1.out.mono ?_
        rintro e w1 ⟨l1, v1, rfl, h1, hp1, k1⟩
        have hsr : srt l1 = ints (turns s) := by rw [lookup_srt hp1, HLW.out]
        have HC2 := Lib.hid (same_il h1 (HI.out.grew k1) (by rw [lookup_len hp1]; exact places_big (by rw [ByteArray.size_append]; omega)) (by rw [HWW.out.1]; omega))
        rw [decide_eq_true hsr, HWW.out.1] at HC2
        have HK := Lib.hid (HW.out.trans k1)
        clear HC1 h1 hp1 k1 hsr
        go_wp2_with fail
        refine HC2.out.mono ?_
        rintro e w2 ⟨rfl, k2⟩
        have HK2 := Lib.hid (HK.out.trans k2)
        clear HC2 k2
        go_wp2
        go_ret
        exact ⟨rfl, HK2.out⟩
theorem times_any (s : ByteArray) (m : Nat) (w : World) (hs : s.size * m ≤ 1073741824) (hm : m ≤ 1073741824) :
    Calls Tryd.prog 35 #[.string s, .int .i64 (m : Int)] w fun e w' => e = .returned (.string (times s m)) ∧ w = w' := by
  have HB := Lib.hid (fun k (hk : k ≤ m) => (times_size s k ▸ Nat.mul_le_mul_left s.size hk : (times s k).size ≤ s.size * m))
  go_enter Tryd.func35, Tryd.ntmps35
  go_wp2_with fail
  go_loop [5, 7] (fun o i => ∃ k : Nat, k ≤ m ∧ i = .int .i64 k ∧ o = .string (times s k)) (fun _ i => m - (intOf i).toNat)
  case atStart => exact ⟨0, by omega, rfl, rfl⟩
  case round =>
    obtain ⟨k, hk, rfl, rfl⟩ := hrel
    by_cases hlt : k < m
    · have y1 : (k : Int) < (m : Int) := by omega
      have x1 : ¬ 9223372036854775807 < (times s k).size + s.size := by
        have h1 := HB.out (k + 1) hlt
        rw [times, ByteArray.size_append] at h1
        omega
      have ht : Hid (times s (k + 1) = times s k ++ s) := rfl
      generalize times s k = o at *
      go_wp2
      go_round
      case rel => exact ⟨k + 1, by omega, by go_num, by rw [ht.out]⟩
      case measure => simp [intOf]; omega
    · obtain rfl : k = m := by omega
      go_wp2
      go_ret
      exact ⟨rfl, rfl⟩
set_option maxHeartbeats 4000000 in
theorem fnTimes_any (s : ByteArray) (many : Int) (w : World) (hs : s.size ≤ 1048576) (lo : -9223372036854775808 ≤ many) (hi : many < 9223372036854775808) (hmax : MaxIs w) :
    Calls Tryd.prog 10 #[.string s, .int .i64 many] w (GB true w) := by
  have HC3 := Lib.hid (awake_any w hmax)
  have HM := Lib.hid hmax
  clear hmax
  by_cases h0 : s.size = 0
  · have hn : s.toList = [] := toList_nil.2 h0
    go_enter Tryd.func10, Tryd.ntmps10
    go_wp2_with fail
    refine HC3.out.mono ?_
    rintro e w2 ⟨rfl, k2⟩
    go_wp2
    go_ret
    exact ⟨rfl, k2⟩
  · have hn : ¬ s.toList = [] := fun h => h0 (toList_nil.1 h)
    have hn2 : s.toList.isEmpty = false := by simpa using hn
    by_cases h1 : many < 1
    · go_enter Tryd.func10, Tryd.ntmps10
      go_wp2_with fail
      refine HC3.out.mono ?_
      rintro e w2 ⟨rfl, k2⟩
      go_wp2
      go_ret
      exact ⟨rfl, k2⟩
    · by_cases h2 : 1000 < many
      · go_enter Tryd.func10, Tryd.ntmps10
        go_wp2_with fail
        refine HC3.out.mono ?_
        rintro e w2 ⟨rfl, k2⟩
        go_wp2
        go_ret
        exact ⟨rfl, k2⟩
      · obtain ⟨m, rfl⟩ : ∃ m : Nat, many = (m : Int) := ⟨many.toNat, by omega⟩
        obtain ⟨M, hM⟩ : ∃ M, s.size * m = M := ⟨_, rfl⟩
        have hMb : M ≤ 1048576 * 1000 := by rw [← hM]; exact Nat.mul_le_mul hs (by omega)
        have e4 : (s.size : Int) * (m : Int) = (M : Int) := by rw [← hM]; simp
        by_cases h3 : 20000 < M
        · have h3' : (20000 : Int) < (M : Int) := by omega
          clear hM
          go_enter Tryd.func10, Tryd.ntmps10
          go_wp2_with fail
          refine HC3.out.mono ?_
          rintro e w2 ⟨rfl, k2⟩
          go_wp2
          go_ret
          exact ⟨rfl, k2⟩
        · obtain ⟨U, hU⟩ : ∃ U, s.size * (m - 1) = U := ⟨_, rfl⟩
          have hUM : U + s.size = M := by
            rw [← hU, ← hM]
            obtain ⟨j, rfl⟩ : ∃ j, m = j + 1 := ⟨m - 1, by omega⟩
            rw [Nat.add_sub_cancel, Nat.mul_succ]
          have e1 : (s.size : Int) * ((m : Int) - 1) = (U : Int) := by rw [← hU, Int.natCast_mul]; congr 1; omega
          have HLW := Lib.hid (times_law (s := s) (many := m) (by omega) (by omega))
          have HTM := Lib.hid (fun u => times_any s m u (by omega) (by omega))
          have HTZ := Lib.hid (times_size s m)
          rw [hU] at HLW
          rw [hM] at HTZ
          have g0 : ¬ (s.size : Int) = 0 := by omega
          have hU1 : U ≤ 20000 := by omega
          have hM1 : M ≤ 20000 := by omega
          have hS1 : s.size ≤ 20000 := by omega
          have h3' : ¬ (20000 : Int) < (M : Int) := by omega
          clear hM hU HC3 hUM hMb
          go_enter Tryd.func10, Tryd.ntmps10
          go_wp2_with fail
          go_loopw [5, 6, 7] (fun ov i _ wr => RgRel (fun i => rotB s (i % s.size)) (U + 1) w ov i wr) (fun _ i _ _ => U + 1 - (intOf i).toNat)
          case atStart => exact ⟨0, by omega, rfl, OL.nil _ _, Kept.refl _ _⟩
          case round =>
            obtain ⟨k, hk, rfl, HO, HW⟩ := hrel
            by_cases hlt : k < U + 1
            · have y1 : (k : Int) ≤ (U : Int) := by omega
              obtain ⟨r, hr⟩ : ∃ r, k % s.size = r := ⟨_, rfl⟩
              have hrl : r < s.size := by rw [← hr]; exact Nat.mod_lt _ (by omega)
              have e5 : (k : Int) % (s.size : Int) = (r : Int) := by rw [← hr]; simp
              have y2 : (r : Int) ≤ (s.size : Int) := by omega
              have x1 : ¬ 9223372036854775807 < s.size - r + min r s.size := by omega
              have he := rotB_eq s r
              by_cases hf : rotB s r = true
              · have HF : Hid ((fun i => rotB s (i % s.size)) k = true) := by show rotB s (k % s.size) = true; rw [hr]; exact hf
                rw [hf] at he
                clear hr
                go_wp2_with fail
                go_quiet (fail)
                obtain ⟨v', w', happ, ho', hk'⟩ := append_int (w := wr.drewN nq) (k : Int) 3 22 (HW.out.drewN nq) HO.out (by have := range_len (fun i => rotB s (i % s.size)) k; omega)
                rw [← range_yes (f := fun i => rotB s (i % s.size)) HF.out] at ho'
                have HO' := Lib.hid ho'; have HK' := Lib.hid hk'
                clear ho' hk' HO HW hf he x1 HF
                go_wp2_with (at_builtin; refine wpList_append_run rfl _ _ _ _ rfl _ _ rfl rfl _ _ happ ?_)
                go_roundw
                case rel => exact ⟨k + 1, by omega, by go_num, HO', HK'⟩
                case measure => simp [intOf]; omega
              · have hf : rotB s r = false := by simpa using hf
                have HF : Hid ((fun i => rotB s (i % s.size)) k = false) := by show rotB s (k % s.size) = false; rw [hr]; exact hf
                rw [hf] at he
                have HO' : Hid (OL w.heap.size (ints ((List.range (k + 1)).filter (fun i => rotB s (i % s.size)))) wr u5) := by rw [range_no (f := fun i => rotB s (i % s.size)) HF.out]; exact HO.out
                clear HO hf HF hr
                go_wp2_with fail
                go_quiet (fail)
                clear x1 he
                go_wp2
                go_roundw
                case rel => exact ⟨k + 1, by omega, by go_num, HO', HW.out.drewN nq⟩
                case measure => simp [intOf]; omega
            · obtain rfl : k = U + 1 := by omega
              have y1 : ¬ ((U : Int) + 1 ≤ (U : Int)) := by omega
              have HI := Lib.hid HO.out.il
              have hlen := range_len (fun i => rotB s (i % s.size)) (U + 1)
              have HLL := Lib.hid hlen
              have HC1 := Lib.hid (lookup_any (times s m) s wr (by rw [HTZ.out]; omega) (by omega) (HM.out.grew HW.out))
              have HLW' := Lib.hid (show ints (places (times s m) s) = ints ((List.range (U + 1)).filter (fun i => rotB s (i % s.size))) by rw [HLW.out]; rfl)
              clear HO HLW hlen
              go_wp2_with fail
              refine (HTM.out wr).mono ?_
              rintro e w' ⟨rfl, rfl⟩
              go_wp2_with fail
              refine HC1.out.mono ?_
              rintro e w1 ⟨l1, v1, rfl, h1, hp1, k1⟩
              have hsr : srt l1 = ints ((List.range (U + 1)).filter (fun i => rotB s (i % s.size))) := by rw [lookup_srt hp1, HLW'.out]
              have HC2 := Lib.hid (same_il h1 (HI.out.grew k1) (by rw [lookup_len hp1]; exact places_big (by rw [HTZ.out]; omega)) (by have := HLL.out; omega))
              rw [decide_eq_true hsr] at HC2
              have HK := Lib.hid (HW.out.trans k1)
              clear HC1 h1 hp1 k1 hsr
              go_wp2_with fail
              refine HC2.out.mono ?_
              rintro e w2 ⟨rfl, k2⟩
              have HK2 := Lib.hid (HK.out.trans k2)
              clear HC2 k2
              go_wp2
              go_ret
              exact ⟨rfl, HK2.out⟩
end Go.Proofs.YtgmmenfnhppofaaDoor
