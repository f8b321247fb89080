/- Shared. -/
import Derived.Test.YtpknikogkaogjaaDoorQLwDi
set_option linter.unusedVariables false
namespace Go.Proofs.YtpknikogkaogjaaDoor
open Go.RowKit Go.Mem Sais
set_option maxRecDepth 100000

def ShRel (a b : ByteArray) (w : World) (mv iv : Value) (wr : World) : Prop := ∃ i : Nat, i ≤ a.size ∧ iv = .int .i64 i ∧ mv = .int .i64 (mx (fun i => mx (fun k => lcp a i b k) b.size) i : Nat) ∧ Hid (∃ q, wr = w.drewN q)
def ShRel2 (a b : ByteArray) (i M : Nat) (w : World) (mv kv : Value) (wr : World) : Prop := ∃ k : Nat, k ≤ b.size ∧ kv = .int .i64 k ∧ mv = .int .i64 (max M (mx (fun k => lcp a i b k) k) : Nat) ∧ Hid (∃ q, wr = w.drewN q)
set_option maxHeartbeats 4000000 in
theorem shared_any (a b : ByteArray) (w : World) (ha : a.size ≤ 1073741824) (hb : b.size ≤ 1073741824) :
    Calls Tryd.prog 16 #[.string a, .string b] w (NQ (shN a b) w) := by
  have HC := Lib.hid (fun i k (hi : i ≤ a.size) (hk : k ≤ b.size) u => common_at (a := a) (b := b) (i := i) (j := k) hi hk ha hb u)
  have HB : Hid (shN a b = mx (fun i => mx (fun k => lcp a i b k) b.size) a.size) := rfl
  have HX := Lib.hid (fun i => (mx_le (fun j _ => mx_le fun k _ => Nat.le_trans (lcp_le a j b k) (Nat.sub_le _ _)) : mx (fun i => mx (fun k => lcp a i b k) b.size) i ≤ a.size))
  have HX2 := Lib.hid (fun i k => (mx_le (fun j _ => Nat.le_trans (lcp_le a i b j) (Nat.sub_le _ _)) : mx (fun k => lcp a i b k) k ≤ a.size))
  have HLe := Lib.hid (fun i k => Nat.le_trans (lcp_le a i b k) (Nat.sub_le _ _))
  go_enter Tryd.func16, Tryd.ntmps16
  go_wp2_with fail
  go_loopw [5, 10, 6, 7] (fun mv iv _ _ wr => ShRel a b w mv iv wr) (fun _ iv _ _ _ => a.size - (intOf iv).toNat)
  case atStart => exact ⟨0, by omega, rfl, rfl, ⟨0, rfl⟩⟩
  case round =>
    obtain ⟨i, hi, rfl, rfl, HQ⟩ := hrel
    by_cases hlt : i < a.size
    · have y1 : (i : Int) < (a.size : Int) := by omega
      have hMs : Hid (mx (fun i => mx (fun k => lcp a i b k) b.size) (i + 1) = max (mx (fun i => mx (fun k => lcp a i b k) b.size) i) (mx (fun k => lcp a i b k) b.size)) := rfl
      have hob := HX.out i
      generalize hM1 : mx (fun i => mx (fun k => lcp a i b k) b.size) (i + 1) = M1 at *
      generalize mx (fun i => mx (fun k => lcp a i b k) b.size) i = M at *
      have HM1 := Lib.hid hM1
      have e0 : Hid (M = max M (mx (fun k => lcp a i b k) 0)) := by show M = max M 0; omega
      clear hM1 HB HX
      go_wp2_with fail
      go_loopw [5, 15, 7] (fun mv kv _ wr => ShRel2 a b i M w mv kv wr) (fun _ kv _ _ => b.size - (intOf kv).toNat)
      case atStart => exact ⟨0, by omega, rfl, by rw [← e0.out], HQ⟩
      case round =>
        clear e0 HQ
        obtain ⟨k, hk, rfl, rfl, HQ⟩ := hrel
        by_cases hlt2 : k < b.size
        · have y2 : (k : Int) < (b.size : Int) := by omega
          have y3 : (k : Int) ≤ (b.size : Int) := by omega
          have y4 : (i : Int) ≤ (a.size : Int) := by omega
          have HC' := Lib.hid (HC.out i k hi hk)
          have hs : max M (mx (fun k => lcp a i b k) (k + 1)) = max (max M (mx (fun k => lcp a i b k) k)) (lcp a i b k) := by
            show max M (max (mx (fun k => lcp a i b k) k) (lcp a i b k)) = _
            rw [Nat.max_assoc]
          have HS := Lib.hid hs
          have b1 : max M (mx (fun k => lcp a i b k) k) ≤ a.size := by have := HX2.out i k; omega
          have b2 := HLe.out i k
          clear hs
          generalize hm1 : max M (mx (fun k => lcp a i b k) (k + 1)) = m1 at *
          generalize max M (mx (fun k => lcp a i b k) k) = m0 at *
          generalize lcp a i b k = c at *
          have HM2 := Lib.hid hm1
          clear hm1 HC HX2 HLe
          go_wp2_with fail
          go_quiet ((go_at_call 28; exact Calls.quiet_of (HC'.out _)))
          rw [maxIf HS.out]
          go_wp2
          go_roundw
          case rel => exact ⟨k + 1, by omega, by go_num, by rw [HM2.out], drewEx HQ.out _⟩
          case measure => simp [intOf]; omega
        · obtain rfl : k = b.size := by omega
          have hf : Hid (max M (mx (fun k => lcp a i b k) b.size) = M1) := hMs.out.symm
          rw [hf.out]
          clear HC HX2 HLe
          go_wp2
          go_roundw
          case rel => exact ⟨i + 1, by omega, by go_num, by rw [HM1.out], HQ⟩
          case measure => simp [intOf]; omega
    · obtain rfl : i = a.size := by omega
      go_wp2
      go_ret
      exact ⟨by rw [HB.out]; rfl, HQ.out⟩
end Go.Proofs.YtpknikogkaogjaaDoor
