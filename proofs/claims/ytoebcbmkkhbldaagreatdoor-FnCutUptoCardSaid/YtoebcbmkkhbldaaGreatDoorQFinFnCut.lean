/- FnCut: for every input of bulk at most 1048576 the law returns true, and its arguments read as they read before. -/
import Derived.Test.YtoebcbmkkhbldaaGreatDoorQFix
import Derived.Test.YtoebcbmkkhbldaaGreatDoorQLwCu
set_option linter.unusedVariables false
namespace Go.Proofs.YtoebcbmkkhbldaaGreatDoor.fnCut
open Go.ChangeShapes Go.WideShapes Go.ChangeAt Go.RowKit Go.Mem

set_option maxRecDepth 100000 in
set_option maxHeartbeats 4000000 in
theorem contract (H : Type) (enc : TypeId × Value → H) (W : World) (base : Nat) (args : Array Value) (ds gs : List (DataW H)) (before : List MemPlace)
    (hval : ∀ (j : Nat) t v, Tryz.f9.params[j]? = some t → args[j]? = some v → Value.okWide Tryz.prog W .any base t v)
    (hW : DataW.Whole enc Tryz.prog Tryz.f9.params.toList Rows.fnCutSpec.vars false W args.toList ds gs before) (hL : laidMetH Tryz.prog Rows.fnCutRow.laid W) (hk : Rows.uptoSmall H (ds ++ gs) = true) :
    Calls Tryz.prog 9 args W fun e W' => ∃ v, e = .returned v ∧ Rows.fnCutSpec.post enc Tryz.prog Tryz.f9 false true false false W args v W' := by
  have hW' := hW
  obtain ⟨p, q, hA0, hV, rfl, hfz, hnd⟩ := hW
  have hA : DataW.TrodAll enc Tryz.prog W 0 (fun _ => true) true Tryz.f9.params.toList args.toList ds p := hA0
  rw [Tryz.params9] at hA hval
  obtain ⟨v0, vs0, d0, ds0, p0, q0, hargs, rfl, rfl, h0, r0⟩ := trodAll_cons hA
  obtain ⟨v1, vs1, d1, ds1, p1, q1, rfl, rfl, rfl, h1, r1⟩ := trodAll_cons r0
  obtain ⟨rfl, rfl, rfl⟩ := trodAll_nil r1
  obtain rfl : args = #[v0, v1] := by cases args; simp_all
  obtain ⟨rfl, rfl⟩ := trodVars_none hV
  obtain ⟨x0, rfl, rfl, rfl, hm0⟩ := Go.ChangeMaps.open_string Tryz.underlying9 (hval 0 9 v0 rfl rfl) h0
  obtain ⟨x1, rfl, rfl, rfl, hm1⟩ := open_int Tryz.underlying3 (hval 1 3 v1 rfl rfl) h1
  clear hA0
  simp only [List.append_nil] at hW' hk
  have hb := fin.bound hk
  simp only [fin.bulk_cons, fin.bulk_nil, fin.bulk_str, fin.bulk_int] at hb
  have hx0 : x0.size ≤ 1048576 := by omega
  have lo1 := fin.i64_lo hm1
  have hi1 := fin.i64_hi hm1
  have hM : MaxIs W := fin.maxIsE hL
  have hEr : Errs W.heap.size W := fin.errs hL
  refine Calls.mono (fnCut_any x0 x1 W hx0 hM hEr) fun e W' ⟨he, hg⟩ => ?_
  subst he
  exact ⟨_, rfl, fin.post_of_below (pa := []) (pv := []) hW' (fun _ _ _ => trodAll_cons_mk (shut_bool Tryz.underlying4 _) trodAll_mk0) (fun _ _ => trodAll_cons_mk (Go.ChangeMaps.shut_string Tryz.underlying9 hm0) (trodAll_cons_mk (shut_int Tryz.underlying3 hm1) trodAll_mk0)) (fun _ _ => rfl) rfl
    (fin.below hg) (ok_one (by kernel_rfl) rfl (okWide_bool_mk Tryz.underlying4 _))⟩

theorem laid_met (os : Os) : laidMet Tryz.prog Rows.fnCutRow.laid ((fin.laidWorldE os).forCall (fun _ _ => 0) ⟨#[], #[.string .empty, .int .i64 0], []⟩).memory :=
  laidMet_of_run' 8 (by kernel_rfl) (by kernel_rfl)
theorem reads (os : Os) {H : Type} (enc : TypeId × Value → H) : ∃ places, DataW.whole enc Tryz.prog ((fin.laidWorldE os).forCall (fun _ _ => 0) ⟨#[], #[.string .empty, .int .i64 0], []⟩).memory Tryz.f9.params.toList Rows.fnCutSpec.vars false #[Value.string .empty, Value.int .i64 0].toList 8 = some ([.lit (.string []), .lit (.int .i64 0)], [], places) :=
  ⟨[], by kernel_rfl⟩

set_option maxRecDepth 100000 in
theorem liftedUpto (os : Os) (started : os.Started) (H : Type) (enc : TypeId × Value → H) (F : Stop.Interp) :
    ReturnsInHanded {} Tryz.checked os 9 .any ((Rows.OpenSpec.upto Rows.fnCutSpec).preRow enc Tryz.prog Tryz.f9 Rows.fnCutUptoRow.domain false Rows.fnCutUptoRow.laid) (((Rows.OpenSpec.upto Rows.fnCutSpec).at F).post enc Tryz.prog Tryz.f9 false true false false) := by
  obtain ⟨places, hx⟩ := reads os enc
  refine returnsInHanded_of_row (C := Tryz.checked) (s := Rows.OpenSpec.upto Rows.fnCutSpec) fin.own started (by kernel_rfl) Tryz.func9
    (witness_row_at (enc := enc) (C := Tryz.checked) false (fin.laidWorldE os) #[.string .empty, .int .i64 0] rfl (by kernel_rfl) (by kernel_rfl) (by kernel_rfl)
      (OpenSpec.preRow_of_cond 8 hx (by kernel_rfl) (fun k hk => by cases hk; kernel_rfl) (by kernel_rfl) (laid_met os))) ?_
  intro W base args ds gs before hval hW _ hcond _ hL _ _
  exact contract H enc W base args ds gs before hval hW hL (hcond _ rfl)

set_option maxRecDepth 100000 in
set_option maxHeartbeats 4000000 in
theorem closed : joinedFacts Tryz.prog 9 Tryz.f9 (Rows.OpenSpec.upto Rows.fnCutSpec).bare Rows.fnCutUptoRow = true := by
  unfold joinedFacts
  repeat' (with_reducible refine fin.and_mk ?_ ?_)
  all_goals first | (with_reducible exact fin.k_enter) | (rw [fin.k_final]; rfl) | (rw [fin.k_make]; rfl) | (as_aux_lemma => kernel_rfl)
theorem saidUpto : Rows.FnCutUptoSaid :=
  OpenClaim.holds_of_cond 9 Tryz.f9 rfl rfl rfl rfl rfl rfl rfl ⟨rfl, rfl, rfl, rfl, rfl⟩ rfl rfl rfl rfl rfl (by as_aux_lemma => kernel_rfl) Tryz.func9 closed
    (of_decide_eq_true (by as_aux_lemma => kernel_rfl)) (by unfold Func.isWrapper; first | (rw [if_pos (by decide +kernel)]; kernel_rfl) | (rw [if_neg (by decide +kernel)]; exact ⟨rfl, rfl⟩))
    (fun os started H enc _ F => by rw [OpenClaim.pre_eq_preRow]; exact liftedUpto os started H enc F)
theorem plain (f : FuncId) (fn : Func) (hf : Tryz.pinned.checked.prog.funcNamed "lib-bellfounder/laws.FnCut" = some f) (hfn : Tryz.pinned.checked.prog.funcs[f]? = some fn) :
    true = Tryz.pinned.checked.prog.looks [] ∧ ∀ (j : Nat) t, fn.params[j]? = some t → Tryz.pinned.checked.prog.wantsStandIn t = false := by
  obtain rfl : f = 9 := Option.some.inj ((show Tryz.prog.funcNamed "lib-bellfounder/laws.FnCut" = some 9 by kernel_rfl).symm.trans hf) |>.symm
  obtain rfl : fn = Tryz.f9 := (Option.some.inj (Tryz.func9.symm.trans hfn)).symm
  refine ⟨fin.looks_true, fun j t ht => ?_⟩
  rw [Tryz.params9] at ht
  have hm := Array.mem_of_getElem? ht
  have hm2 : t = 9 ∨ t = 3 := by simpa using hm
  rcases hm2 with rfl | rfl
  all_goals first | (with_reducible exact fin.noStand_string) | (with_reducible exact fin.noStand_int)
end Go.Proofs.YtoebcbmkkhbldaaGreatDoor.fnCut
namespace Go.Proofs.YtoebcbmkkhbldaaGreatDoor
/-- The statement. -/
theorem fnCut_holds : Rows.FnCutUptoCardSaid :=
  Claim7.holds_tied_plain_at .later [] _ _ _ _ fnCut.saidUpto (fun _ h => by cases h) (by as_aux_lemma => kernel_rfl) (fun _ h => by cases h) fnCutUpto_row_tie rfl ⟨rfl, rfl⟩ fin.main_is rfl fnCut.plain (by as_aux_lemma => kernel_rfl)
end Go.Proofs.YtoebcbmkkhbldaaGreatDoor
