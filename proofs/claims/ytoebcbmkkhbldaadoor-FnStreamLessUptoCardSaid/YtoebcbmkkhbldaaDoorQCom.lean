/- parts, Common, Before. -/
import Derived.Test.YtoebcbmkkhbldaaDoorQLwMo
set_option linter.unusedVariables false
namespace Go.Proofs.YtoebcbmkkhbldaaDoor
open Go.RowKit Go.Mem Sais
set_option maxRecDepth 100000

theorem Tryd.infoStr : (Tryd.prog.info? 9).map (fun i => (i.zero, i.size, i.bytes)) = some (some (.string .empty), 1, 16) := by kernel_rfl
/-- append(out, x) on a list of strings -/
theorem append_str {w0 w : World} {ts : List ByteArray} {v : Value} (x : ByteArray) (t ty : TypeId) (hK : Grew w0 w) (ho : OV 9 w0.heap.size (sv ts) w v) (hz : ts.length + 1 ≤ 1099511627776) :
    ∃ v' w', (Builtin.append_ #[22, 22] ty #[v, .slice (some ⟨w.heap.size, 0, none⟩) 1 1]).run Tryd.prog (w.alloc (.cells #[.string x] t)) = .ok v' w' ∧ OV 9 w0.heap.size (sv (ts ++ [x])) w' v' ∧ Grew w0 w' := by
  obtain ⟨v', w', h1, h2, h3⟩ := append_vals (l2 := [.string x]) 22 ty 9 (.string .empty) 16 Tryd.underlying22 Tryd.infoStr rfl (fun u hu => by rw [List.mem_singleton.1 hu]; rfl) (by omega) (hK.alloc _) (ho.alloc _) (VL.lit w [.string x] t) (by rw [sv_length]; exact hz)
  exact ⟨v', w', h1, by unfold sv at *; rw [List.map_append]; exact h2, h3⟩
def partsL (s : ByteArray) (i k : Nat) : List ByteArray := (List.range k).map (part s i)
theorem partsL_succ (s : ByteArray) (i k : Nat) : partsL s i (k + 1) = partsL s i k ++ [s.extract i (i + k + 1)] := by
  unfold partsL; rw [List.range_succ, List.map_append]; rfl
theorem partsL_len (s : ByteArray) (i k : Nat) : (partsL s i k).length = k := by unfold partsL; simp
def PaRel (s : ByteArray) (i : Nat) (w : World) (ov kv : Value) (wr : World) : Prop := ∃ k : Nat, k ≤ s.size - i ∧ kv = .int .i64 ((i : Int) + (k : Int) + 1) ∧ Hid (OV 9 w.heap.size (sv (partsL s i k)) wr ov) ∧ Hid (Grew w wr)
def TsPost (ts : List ByteArray) (w : World) (e : Ending) (w' : World) : Prop := ∃ v, e = .returned v ∧ TS ts w' v ∧ Grew w w'
/-- A number, and some draws. -/
def NQ (z : Nat) (w : World) (e : Ending) (w' : World) : Prop := e = .returned (.int .i64 (z : Int)) ∧ ∃ q, w' = w.drewN q
theorem lcp_extract {a b : ByteArray} {i j : Nat} (hi : i ≤ a.size) (hj : j ≤ b.size) : lcp (a.extract i a.size) 0 (b.extract j b.size) 0 = lcp a i b j := by
  have key : ∀ L, L ≤ lcp (a.extract i a.size) 0 (b.extract j b.size) 0 ↔ L ≤ lcp a i b j := fun L => by
    rw [le_lcp, le_lcp, size_extract' (Nat.le_refl _), size_extract' (Nat.le_refl _)]
    constructor
    · intro h x hx
      obtain ⟨h1, h2, h3⟩ := h x hx
      rw [chr_extract _ _ _ _ (by omega) (Nat.le_refl _), chr_extract _ _ _ _ (by omega) (Nat.le_refl _), Nat.zero_add] at h3
      exact ⟨by omega, by omega, h3⟩
    · intro h x hx
      obtain ⟨h1, h2, h3⟩ := h x hx
      refine ⟨by omega, by omega, ?_⟩
      rw [chr_extract _ _ _ _ (by omega) (Nat.le_refl _), chr_extract _ _ _ _ (by omega) (Nat.le_refl _), Nat.zero_add]
      exact h3
  exact Nat.le_antisymm ((key _).1 (Nat.le_refl _)) ((key _).2 (Nat.le_refl _))
end Go.Proofs.YtoebcbmkkhbldaaDoor
