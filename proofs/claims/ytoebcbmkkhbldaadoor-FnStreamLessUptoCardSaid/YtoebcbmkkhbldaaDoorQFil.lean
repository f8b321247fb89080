/- The frame of the statements with a list of strings (or of ints) among the arguments. -/
import Derived.Test.YtoebcbmkkhbldaaDoorQFin
import Derived.Test.YtoebcbmkkhbldaaDoorQLks
import Derived.SliceStrings
import Derived.Carry
set_option linter.unusedVariables false
namespace Go.Proofs.YtoebcbmkkhbldaaDoor.fin
open Go.ChangeShapes Go.WideShapes Go.ChangeAt Go.RowKit Go.Mem
set_option maxRecDepth 100000

theorem laidOut : laidOutB Tryd.prog = true := by kernel_rfl
theorem cellsStr : Tryd.prog.cellsOf 9 = 1 := by kernel_rfl
theorem noStand_strs : Tryd.pinned.checked.prog.wantsStandIn 22 = false := by kernel_rfl
theorem bulk_strs {H : Type} : ∀ l : List ByteArray, l.length ≤ Rows.uptoBulkAll (strs (H := H) l) ∧ ∀ t ∈ l, t.size ≤ Rows.uptoBulkAll (strs (H := H) l)
  | [] => ⟨by simp, fun t h => by cases h⟩
  | s :: l => by
    have ih := bulk_strs (H := H) l
    have e : Rows.uptoBulkAll (strs (H := H) (s :: l)) = s.size + 1 + Rows.uptoBulkAll (strs (H := H) l) := by
      unfold strs; rw [List.map_cons, bulk_cons, bulk_str]
    rw [e]
    refine ⟨by rw [List.length_cons]; omega, fun t ht => ?_⟩
    rcases List.mem_cons.1 ht with rfl | ht
    · omega
    · have := ih.2 t ht; omega
theorem open_ts {H : Type} {enc : TypeId × Value → H} {W : World} {base : Nat} {v : Value} {d : DataW H} {ps : List MemPlace} (hval : Value.okWide Tryd.prog W .any base 22 v) (h : DataW.Trod enc Tryd.prog W 0 (fun _ => true) true 22 v d ps) :
    ∃ ts : List ByteArray, TS ts W v ∧ ts.length ≤ Rows.uptoBulk d ∧ ∀ t ∈ ts, t.size ≤ Rows.uptoBulk d := by
  obtain ⟨a0, len, cap, rfl⟩ := okWide_slice Tryd.underlying22 hval
  obtain ⟨fuel, hf⟩ := h
  rcases open_strings Tryd.underlying22 Tryd.underlying9 cellsStr hf with ⟨hcs, hx⟩ | ⟨a, len', cap', ss, hcs, _, hl, hm, hz, hx, hcell, hws⟩
  · simp [Value.cells] at hcs
    obtain ⟨rfl, rfl, rfl⟩ := hcs
    exact ⟨[], VL.nil _ _, by simp, fun t h => by cases h⟩
  · simp [Value.cells] at hcs
    obtain ⟨rfl, rfl, rfl⟩ := hcs
    simp only [Prod.mk.injEq] at hx
    obtain ⟨rfl, rfl⟩ := hx
    simp only [if_true] at hz
    have hb : Rows.uptoBulkAll (strs (H := H) (ss.take len)) ≤ Rows.uptoBulk (DataW.slice (strs (H := H) (ss.take len)) (strs (ss.drop len))) := by
      simp only [Rows.uptoBulk]; omega
    have h2 := bulk_strs (H := H) (ss.take len)
    refine ⟨ss.take len, ?_, by omega, fun t ht => by have := h2.2 t ht; omega⟩
    have hlen : (ss.take len).length = len := by rw [List.length_take]; omega
    by_cases h0 : len = 0
    · subst h0
      exact VL.nil _ _
    · obtain ⟨b, off, spot⟩ := a
      have hspot : spot = none := by simpa [Addr.add] using World.cell?_spot (hcell 0 (by omega))
      subst hspot
      refine .inr ⟨b, off, cap, by rw [sv_length, hlen], by rw [sv_length, hlen]; exact hl, fun j hj => ?_⟩
      rw [sv_length, hlen] at hj
      have := hcell j (by omega)
      rw [Addr.add_lit] at this
      rw [this]
      simp [sv, List.getD, show j < ss.length by omega]
section
variable {H : Type} {enc : TypeId × Value → H}
/-- The last step where the arguments lead to memory: each is read again as it was. -/
theorem post_of_args {f : Func} {s : ChangeSpec} {W W' : World} {args : Array Value} {v : Value} {ds gs : List (DataW H)} {before pa : List MemPlace}
    (hW : DataW.Whole enc Tryd.prog f.params.toList s.vars false W args.toList ds gs before)
    (hres : DataW.TrodAll enc Tryd.prog W' W.heap.size (fun _ => false) false f.resultTypes.toList (v.resultList f.resultTypes.size) (s.fn H (ds ++ gs)).results [])
    (hargs : DataW.TrodAll enc Tryd.prog W' 0 (fun b => decide (b < W.heap.size)) true f.params.toList args.toList (s.fn H (ds ++ gs)).args pa)
    (hvars : DataW.TrodVars enc Tryd.prog W' (fun b => decide (b < W.heap.size)) s.vars (s.fn H (ds ++ gs)).vars [])
    (hps : before = pa) (hb : Below W.heap.size W W') : s.post enc Tryd.prog f false true false false W args v W' := by
  subst hps
  refine ⟨ds, gs, before, [] ++ [], before, [], hW, ?_, hargs, hvars, ?_, fun h => by cases h⟩
  · exact hres
  · exact hb.frame _
end
end Go.Proofs.YtoebcbmkkhbldaaDoor.fin
