/- The frame of the statements with a list of ints among the arguments. -/
import Derived.Test.YtoebcbmkkhbldaaGreatDoorQFil
import Derived.ChangeSlices
set_option linter.unusedVariables false
namespace Go.Proofs.YtoebcbmkkhbldaaGreatDoor.fin
open Go.ChangeShapes Go.WideShapes Go.ChangeAt Go.RowKit Go.Mem
set_option maxRecDepth 100000

theorem cellsInt : Tryz.prog.cellsOf 3 = 1 := by kernel_rfl
theorem noStand_ints : Tryz.pinned.checked.prog.wantsStandIn 23 = false := by kernel_rfl
theorem bulk_lits {H : Type} : ∀ l : List Int, Rows.uptoBulkAll (lits (H := H) .i64 l) = l.length
  | [] => by simp [lits, bulk_nil]
  | x :: l => by
    have ih := bulk_lits (H := H) l
    have e : Rows.uptoBulkAll (lits (H := H) .i64 (x :: l)) = 1 + Rows.uptoBulkAll (lits (H := H) .i64 l) := by
      unfold lits; rw [List.map_cons, bulk_cons, bulk_int]
    rw [e, ih, List.length_cons]; omega
theorem open_is {H : Type} {enc : TypeId × Value → H} {W : World} {base : Nat} {v : Value} {d : DataW H} {ps : List MemPlace} (hval : Value.okWide Tryz.prog W .any base 23 v) (h : DataW.Trod enc Tryz.prog W 0 (fun _ => true) true 23 v d ps) :
    ∃ l : List Int, IL l W v ∧ l.length ≤ Rows.uptoBulk d ∧ ∀ x ∈ l, -9223372036854775808 ≤ x ∧ x < 9223372036854775808 := by
  obtain ⟨a0, len, cap, rfl⟩ := okWide_slice Tryz.underlying23 hval
  obtain ⟨fuel, hf⟩ := h
  rcases open_ints Tryz.underlying23 Tryz.underlying3 cellsInt hf with ⟨hcs, hx⟩ | ⟨a, len', cap', zs, hcs, _, hl, hm, hz, hx, hcell, hws⟩
  · simp [Value.cells] at hcs
    obtain ⟨rfl, rfl, rfl⟩ := hcs
    exact ⟨[], VL.nil _ _, by simp, fun t h => by cases h⟩
  · simp [Value.cells] at hcs
    obtain ⟨rfl, rfl, rfl⟩ := hcs
    simp only [Prod.mk.injEq] at hx
    obtain ⟨rfl, rfl⟩ := hx
    simp only [if_true] at hz
    have hb : Rows.uptoBulkAll (lits (H := H) .i64 (zs.take len)) ≤ Rows.uptoBulk (DataW.slice (lits (H := H) .i64 (zs.take len)) (lits .i64 (zs.drop len))) := by
      simp only [Rows.uptoBulk]; omega
    rw [bulk_lits] at hb
    have hlen : (zs.take len).length = len := by rw [List.length_take]; omega
    refine ⟨zs.take len, ?_, hb, fun x hx => ?_⟩
    · by_cases h0 : len = 0
      · subst h0
        exact VL.nil _ _
      · obtain ⟨b, off, spot⟩ := a
        have hspot : spot = none := by simpa [Addr.add] using World.cell?_spot (hcell 0 (by omega))
        subst hspot
        refine .inr ⟨b, off, cap, by rw [iv_length, hlen], by rw [iv_length, hlen]; exact hl, fun j hj => ?_⟩
        rw [iv_length, hlen] at hj
        have := hcell j (by omega)
        rw [Addr.add_lit] at this
        rw [this]
        simp [iv, List.getD, show j < zs.length by omega]
    · have := hws x (List.mem_of_mem_take hx)
      exact ⟨i64_lo this, i64_hi this⟩
end Go.Proofs.YtoebcbmkkhbldaaGreatDoor.fin
