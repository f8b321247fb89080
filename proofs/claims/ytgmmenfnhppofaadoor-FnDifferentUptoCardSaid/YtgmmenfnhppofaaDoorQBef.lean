/- Before, Alone. -/
import Derived.Test.YtgmmenfnhppofaaDoorQCom
set_option linter.unusedVariables false
namespace Go.Proofs.YtgmmenfnhppofaaDoor
open Go.RowKit Go.Mem Sais
set_option maxRecDepth 100000

theorem maxIf {a b c : Nat} (h : c = max a b) : (if a < b then (b : Int) else (a : Int)) = (c : Int) := by
  split <;> omega
theorem common_at {a b : ByteArray} {i j : Nat} (hi : i ≤ a.size) (hj : j ≤ b.size) (ha : a.size ≤ 1073741824) (hb : b.size ≤ 1073741824) (u : World) :
    Calls Tryd.prog 52 #[.string (a.extract i a.size), .string (b.extract j b.size)] u fun e w' => e = .returned (.int .i64 (lcp a i b j : Nat)) ∧ ∃ q, w' = u.drewN q := by
  have h := common_any (a.extract i a.size) (b.extract j b.size) u (by rw [size_extract' (Nat.le_refl _)]; omega) (by rw [size_extract' (Nat.le_refl _)]; omega)
  rw [lcp_extract hi hj] at h
  exact h
def MxRel (f : Nat → Nat) (n : Nat) (w : World) (mv iv : Value) (wr : World) : Prop := ∃ k : Nat, k ≤ n ∧ iv = .int .i64 k ∧ mv = .int .i64 (mx f k : Nat) ∧ Hid (∃ q, wr = w.drewN q)
set_option maxHeartbeats 4000000 in
theorem before_any (d : ByteArray) (i : Nat) (w : World) (hd : d.size ≤ 1073741824) (hi : i ≤ d.size) :
    Calls Tryd.prog 39 #[.string d, .int .i64 (i : Int)] w (NQ (befN d i) w) := by
  have HC := Lib.hid (fun k (hk : k ≤ i) u => common_at (a := d) (b := d) (i := i) (j := k) hi (by omega) hd hd u)
  have HB : Hid (befN d i = mx (fun k => lcp d i d k) i) := rfl
  have HX := Lib.hid (fun k => (mx_le (fun j _ => lcp_le d i d j) : mx (fun k => lcp d i d k) k ≤ d.size - i))
  have HLe := Lib.hid (fun k => lcp_le d i d k)
  go_enter Tryd.func39, Tryd.ntmps39
  go_wp2_with fail
  go_loopw [5, 8, 6] (fun mv iv _ wr => MxRel (fun k => lcp d i d k) i w mv iv wr) (fun _ iv _ _ => i - (intOf iv).toNat)
  case atStart => exact ⟨0, by omega, rfl, rfl, ⟨0, rfl⟩⟩
  case round =>
    obtain ⟨k, hk, rfl, rfl, HQ⟩ := hrel
    by_cases hlt : k < i
    · have y1 : (k : Int) < (i : Int) := by omega
      have y2 : (k : Int) ≤ (d.size : Int) := by omega
      have y3 : (i : Int) ≤ (d.size : Int) := by omega
      have HC' := Lib.hid (HC.out k hk)
      have hs : Hid (mx (fun k => lcp d i d k) (k + 1) = max (mx (fun k => lcp d i d k) k) (lcp d i d k)) := rfl
      have b1 := HX.out k
      have b2 := HLe.out k
      generalize hm1 : mx (fun k => lcp d i d k) (k + 1) = m1 at *
      generalize mx (fun k => lcp d i d k) k = m0 at *
      generalize lcp d i d k = c at *
      have HM1 := Lib.hid hm1
      clear hm1
      clear HC HB HX HLe
      go_wp2_with fail
      go_quiet ((go_at_call 52; exact Calls.quiet_of (HC'.out _)))
      rw [maxIf hs.out]
      go_wp2
      go_roundw
      case rel => exact ⟨k + 1, by omega, by go_num, by rw [HM1.out], drewEx HQ.out _⟩
      case measure => simp [intOf]; omega
    · obtain rfl : k = i := by omega
      go_wp2
      go_ret
      exact ⟨by rw [HB.out]; rfl, HQ.out⟩
/-- Common's loop from i + 1 on, in Alone. -/
def AlRel (d : ByteArray) (i : Nat) (w : World) (mv kv : Value) (wr : World) : Prop := ∃ k : Nat, i < k ∧ k ≤ d.size ∧ kv = .int .i64 k ∧ mv = .int .i64 (othN d i k : Nat) ∧ Hid (∃ q, wr = w.drewN q)
def aloneN (d : ByteArray) (i : Nat) : Nat := if othN d i d.size = d.size - i then 0 else othN d i d.size + 1
set_option maxHeartbeats 4000000 in
theorem alone_any (d : ByteArray) (i : Nat) (w : World) (hd : d.size ≤ 1073741824) (hi : i < d.size) :
    Calls Tryd.prog 38 #[.string d, .int .i64 (i : Int)] w (NQ (aloneN d i) w) := by
  have HB := Lib.hid (before_any d i w hd (by omega))
  have HBE := Lib.hid (othN_bef d i)
  have HC := Lib.hid (fun k (hk : k ≤ d.size) u => common_at (a := d) (b := d) (i := i) (j := k) (by omega) hk hd hd u)
  have HX := Lib.hid (fun k => othN_le d i k)
  have HLe := Lib.hid (fun k => lcp_le d i d k)
  have HS := Lib.hid (fun n h => othN_succ d i n h)
  go_enter Tryd.func38, Tryd.ntmps38
  go_wp2_with fail
  refine HB.out.mono ?_
  rintro e w1 ⟨rfl, hq⟩
  have HQ0 := Lib.hid hq
  rw [← HBE.out]
  clear HB HBE hq
  go_wp2_with fail
  go_loopw [5, 6] (fun mv kv wr => AlRel d i w mv kv wr) (fun _ kv _ => d.size - (intOf kv).toNat)
  case atStart => exact ⟨i + 1, by omega, by omega, by go_num, rfl, HQ0⟩
  case round =>
    obtain ⟨k, hk0, hk, rfl, rfl, HQ⟩ := hrel
    by_cases hlt : k < d.size
    · have y1 : (k : Int) < (d.size : Int) := by omega
      have y2 : (k : Int) ≤ (d.size : Int) := by omega
      have y3 : (i : Int) ≤ (d.size : Int) := by omega
      have HC' := Lib.hid (HC.out k hk)
      have hs := Lib.hid (HS.out k hk0)
      have b1 := HX.out k
      have b2 := HLe.out k
      generalize hm1 : othN d i (k + 1) = m1 at *
      generalize othN d i k = m0 at *
      generalize lcp d i d k = c at *
      have HM1 := Lib.hid hm1
      clear hm1 HC HX HLe HS HQ0
      go_wp2_with fail
      go_quiet ((go_at_call 52; exact Calls.quiet_of (HC'.out _)))
      rw [maxIf hs.out]
      go_wp2
      go_roundw
      case rel => exact ⟨k + 1, by omega, by omega, by go_num, by rw [HM1.out], drewEx HQ.out _⟩
      case measure => simp [intOf]; omega
    · obtain rfl : k = d.size := by omega
      have b1 := HX.out d.size
      have y3 : (i : Int) ≤ (d.size : Int) := by omega
      by_cases he : othN d i d.size = d.size - i
      · have ha : aloneN d i = 0 := by unfold aloneN; rw [if_pos he]
        have y4 : ((othN d i d.size : Nat) : Int) = (d.size : Int) - (i : Int) := by omega
        have HA := Lib.hid ha
        clear HC HX HLe HS HQ0 he ha b1
        generalize othN d i d.size = m0 at *
        have y5 : ((m0 : Int) == (d.size : Int) - (i : Int)) = true := by rw [y4]; simp
        have HY := Lib.hid y4
        clear y4
        go_wp2
        go_ret
        exact ⟨by rw [HA.out]; simp, HQ.out⟩
      · have ha : aloneN d i = othN d i d.size + 1 := by unfold aloneN; rw [if_neg he]
        have HA := Lib.hid ha
        clear HC HX HLe HS HQ0 ha
        generalize othN d i d.size = m0 at *
        have y4 : ¬ (m0 : Int) = (d.size : Int) - (i : Int) := by omega
        have y5 : ((m0 : Int) == (d.size : Int) - (i : Int)) = false := by simp; exact y4
        clear he
        go_wp2
        go_ret
        exact ⟨by rw [HA.out]; simp, HQ.out⟩
end Go.Proofs.YtgmmenfnhppofaaDoor
