/- writeInt. -/
import Derived.Test.YtoebcbmkkhbldaaDoorQBuf
import Derived.Deep.RegionHeld3
set_option linter.unusedVariables false
namespace Go.Proofs.YtoebcbmkkhbldaaDoor
open Go.RowKit Go.Mem Sais Go.Lib Go.Wire
set_option maxRecDepth 100000

/-- The buffer for all writes, at block k. -/
def bufV (k : Nat) : Value := .slice (some ⟨k, 0, none⟩) 16384 16384
def wrV (b : Nat) : Value := .iface 38 (.pointer (some ⟨b, 0, none⟩))
/-- What may change: the buffer's blocks, and the first m cells of block k. -/
def OW (b : Nat) (g : Option Nat) (k m : Nat) : Nat → Nat → Prop := fun x o => (x = b ∨ some x = g) ∨ (x = k ∧ o < m)
def WiPost (b : Nat) (g : Option Nat) (k : Nat) (l h r : List UInt8) (n : Nat) (w : World) (e : Ending) (w' : World) : Prop :=
  e = .returned .nilIface ∧ ∃ g', WB b g' (l ++ over h (uvarint (2 * n))) w' ∧ By w' k 0 (over h (uvarint (2 * n)) ++ r) ∧ Kept (OW b g k 10) w w' ∧ (g' = g ∨ ∃ q, g' = some q ∧ w.heap.size ≤ q)
theorem nil_write (b : Nat) (W : World) : (nilAhead 244 38 (.pointer (some ⟨b, 0, none⟩)) "Write").run Tryd.prog W = .ok (some false) W := by kernel_rfl
theorem meth_write (b : Nat) (W : World) : (method 244 38 (.pointer (some ⟨b, 0, none⟩)) "Write").run Tryd.prog W = .ok (109, .pointer (some ⟨b, 0, none⟩)) W := by kernel_rfl
set_option maxHeartbeats 4000000 in
theorem writeInt_any (b k n : Nat) (g : Option Nat) (l h r : List UInt8) (w : World) (hW : WB b g l w) (hB : By w k 0 (h ++ r)) (hh : h.length = 10) (hr : r.length = 16374) (hkb : k ≠ b) (hkg : some k ≠ g) (hn : n ≤ 1073741824) (hlim : l.length + 10 ≤ 140737488355328) :
    Calls Tryd.prog 12 #[wrV b, bufV k, .int .i64 (n : Nat)] w (WiPost b g k l h r n w) := by
  have hu : (uvarint (2 * n)).length ≤ 5 := uv_le (by omega)
  have hzz : zigzag (n : Int) = 2 * n := zz n
  have HP := Tryd.binary_PutVarint k 0 16384 16384 (n : Int) (by omega) (by omega) w (by rw [hzz]; omega) (fun j hj => by
    rw [hzz] at hj
    have := hB j (by simp; omega)
    rw [this.1]; exact ⟨rfl, this.2⟩)
  rw [hzz] at HP
  replace HP := Lib.hid HP
  have hK1 := By.keptSets w k 0 (uvarint (2 * n))
  have hB1 : By (w.setCells k 0 (byteCells (uvarint (2 * n)))) k 0 (over h (uvarint (2 * n)) ++ r) := hB.over (by omega)
  have hW1 : WB b g l (w.setCells k 0 (byteCells (uvarint (2 * n)))) := hW.kept hK1 (fun o hh => hkb hh.1.symm) (fun q hq o hh => hkg (by rw [hq, hh.1]))
  have hov : (over h (uvarint (2 * n))).length = 10 := by rw [over_len (by omega), hh]
  have HBW := Lib.hid (fun u (hu : Kept (fun _ _ => False) (w.setCells k 0 (byteCells (uvarint (2 * n)))) u) (hW2 : WB b g l u) => buffer_Write b g l (over h (uvarint (2 * n))) (.slice (some ⟨k, 0, none⟩) 10 16384) u hW2 (.inr ⟨k, 0, 16384, by rw [hov], hkb, (hB1.left.kept hu fun _ _ h => h).br⟩) (by omega))
  have HE : Hid (∀ u, WrPost b g l (over h (uvarint (2 * n))) 10 (w.setCells k 0 (byteCells (uvarint (2 * n)))).drew (.returned (.tuple #[.int .i64 (10 : Nat), .nilIface])) u → WiPost b g k l h r n w (.returned .nilIface) u) := fun u hu => by
    obtain ⟨_, g', h1, h2, h3⟩ := hu
    have h2' : Kept (OB b g) (w.setCells k 0 (byteCells (uvarint (2 * n)))) u := ⟨h2.os, h2.tape, h2.output, h2.size, h2.cell, h2.frozen, h2.block, h2.shape⟩
    have hsz : (w.setCells k 0 (byteCells (uvarint (2 * n)))).heap.size = w.heap.size := (plain_setCells k _ 0 w).2.2.2
    refine ⟨rfl, g', h1, hB1.kept h2' fun j hj hh => ?_, ?_, ?_⟩
    · rcases hh with hh | hh
      · exact hkb hh
      · exact hkg hh
    · exact (hK1.mono fun x o _ hh => .inr ⟨hh.1, by have := hh.2.2; omega⟩).trans' h2' fun x o _ hh => .inl hh
    · rcases h3 with h3 | ⟨q, h4, h5⟩
      · exact .inl h3
      · exact .inr ⟨q, h4, by rw [← hsz]; exact h5⟩
  have hna := nil_write b
  have hme := meth_write b
  unfold bufV wrV
  clear hB hW hK1 hB1
  have HW1 := Lib.hid hW1
  clear hW1
  go_enter Tryd.func12, Tryd.ntmps12
  go_wp2_with fail
  refine HP.out.mono ?_
  rintro e w1 ⟨rfl, rfl⟩
  clear HP
  generalize w.setCells k 0 (byteCells (uvarint (2 * n))) = w1 at *
  have HC := HBW.out w1.drew (Kept.refl _ w1 : Kept (fun _ _ => False) w1 w1).drew HW1.out
  rw [hov] at HC
  replace HC := Lib.hid HC
  clear HBW HW1 hov hu hzz
  generalize over h (uvarint (2 * n)) = ov at *
  go_wp2_with fail
  go_region_with (
    go_at_call 109
    refine HC.out.mono ?_
    rintro e w3 hpo
    have HF := Lib.hid (HE.out w3 (hpo.1 ▸ hpo))
    obtain ⟨rfl, _⟩ := hpo
    clear HE HC)
  all_goals (
    go_simp
    go_wp2
    go_ret
    exact HF.out)
end Go.Proofs.YtoebcbmkkhbldaaDoor
