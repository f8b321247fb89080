/- Before, Alone. -/
import Derived.Test.YtpknikogkaogjaaDoorQCom
set_option linter.unusedVariables false
namespace Go.Proofs.YtpknikogkaogjaaDoor
open Go.RowKit Go.Mem Sais
set_option maxRecDepth 100000

theorem maxIf {a b c : Nat} (h : c = max a b) : (if a < b then (b : Int) else (a : Int)) = (c : Int) := by
  split <;> omega
theorem common_at {a b : ByteArray} {i j : Nat} (hi : i ≤ a.size) (hj : j ≤ b.size) (ha : a.size ≤ 1073741824) (hb : b.size ≤ 1073741824) (u : World) :
    Calls Tryd.prog 28 #[.string (a.extract i a.size), .string (b.extract j b.size)] u fun e w' => e = .returned (.int .i64 (lcp a i b j : Nat)) ∧ ∃ q, w' = u.drewN q := by
  have h := common_any (a.extract i a.size) (b.extract j b.size) u (by rw [size_extract' (Nat.le_refl _)]; omega) (by rw [size_extract' (Nat.le_refl _)]; omega)
  rw [lcp_extract hi hj] at h
  exact h
def MxRel (f : Nat → Nat) (n : Nat) (w : World) (mv iv : Value) (wr : World) : Prop := ∃ k : Nat, k ≤ n ∧ iv = .int .i64 k ∧ mv = .int .i64 (mx f k : Nat) ∧ Hid (∃ q, wr = w.drewN q)
/-- Common's loop from i + 1 on, in Alone. -/
def AlRel (d : ByteArray) (i : Nat) (w : World) (mv kv : Value) (wr : World) : Prop := ∃ k : Nat, i < k ∧ k ≤ d.size ∧ kv = .int .i64 k ∧ mv = .int .i64 (othN d i k : Nat) ∧ Hid (∃ q, wr = w.drewN q)
def aloneN (d : ByteArray) (i : Nat) : Nat := if othN d i d.size = d.size - i then 0 else othN d i d.size + 1
end Go.Proofs.YtpknikogkaogjaaDoor
