/- FnAgain: for every input of bulk at most 1048576 the law returns true, and its arguments read as they read before. -/
import Derived.Test.YtmdbdhamlcgblaaDoorQFie
import Derived.Test.YtmdbdhamlcgblaaDoorQAgn
set_option linter.unusedVariables false
namespace Go.Proofs.YtmdbdhamlcgblaaDoor.fnAgain
open Go.ChangeShapes Go.WideShapes Go.ChangeAt Go.RowKit Go.Mem

set_option maxRecDepth 100000 in
set_option maxHeartbeats 4000000 in
theorem contract (H : Type) (enc : TypeId × Value → H) (W : World) (base : Nat) (args : Array Value) (ds gs : List (DataW H)) (before : List MemPlace)
    (hval : ∀ (j : Nat) t v, Tryd.f5.params[j]? = some t → args[j]? = some v → Value.okWide Tryd.prog W .any base t v)
    (hW : DataW.Whole enc Tryd.prog Tryd.f5.params.toList Rows.fnAgainSpec.vars false W args.toList ds gs before) (hL : laidMetH Tryd.prog Rows.fnAgainRow.laid W) (hk : Rows.uptoSmall H (ds ++ gs) = true) :
    Calls Tryd.prog 5 args W fun e W' => ∃ v, e = .returned v ∧ Rows.fnAgainSpec.post enc Tryd.prog Tryd.f5 false true false false W args v W' := by
  have hW' := hW
  obtain ⟨p, q, hA0, hV, rfl, hfz, hnd⟩ := hW
  have hA : DataW.TrodAll enc Tryd.prog W 0 (fun _ => true) true Tryd.f5.params.toList args.toList ds p := hA0
  rw [Tryd.params5] at hA hval
  obtain ⟨v0, vs0, d0, ds0, p0, q0, hargs, rfl, rfl, h0, r0⟩ := trodAll_cons hA
  obtain ⟨rfl, rfl, rfl⟩ := trodAll_nil r0
  obtain rfl : args = #[v0] := by cases args; simp_all
  obtain ⟨rfl, rfl⟩ := trodVars_none hV
  obtain ⟨x0, rfl, rfl, rfl, hm0⟩ := Go.ChangeMaps.open_string Tryd.underlying9 (hval 0 9 v0 rfl rfl) h0
  clear hA0
  simp only [List.append_nil] at hW' hk
  have hb := fin.bound hk
  simp only [fin.bulk_cons, fin.bulk_nil, fin.bulk_str] at hb
  have hx0 : x0.size ≤ 1048576 := by omega
  have hM : MaxIs W := fin.maxIsE hL
  refine Calls.mono (fnAgain_any x0 W (by omega) hM) fun e W' ⟨he, hg⟩ => ?_
  subst he
  exact ⟨_, rfl, fin.post_of_below (pa := []) (pv := []) hW' (fun _ _ _ => trodAll_cons_mk (shut_bool Tryd.underlying4 _) trodAll_mk0) (fun _ _ => trodAll_cons_mk (Go.ChangeMaps.shut_string Tryd.underlying9 hm0) trodAll_mk0) (fun _ _ => rfl) rfl
    (fin.below hg) (ok_one (by kernel_rfl) rfl (okWide_bool_mk Tryd.underlying4 _))⟩

theorem laid_met (os : Os) : laidMet Tryd.prog Rows.fnAgainRow.laid ((fin.laidWorldE os).forCall (fun _ _ => 0) ⟨#[], #[.string .empty], []⟩).memory :=
  laidMet_of_run' 8 (by kernel_rfl) (by kernel_rfl)
theorem reads (os : Os) {H : Type} (enc : TypeId × Value → H) : ∃ places, DataW.whole enc Tryd.prog ((fin.laidWorldE os).forCall (fun _ _ => 0) ⟨#[], #[.string .empty], []⟩).memory Tryd.f5.params.toList Rows.fnAgainSpec.vars false #[Value.string .empty].toList 8 = some ([.lit (.string [])], [], places) :=
  ⟨[], by kernel_rfl⟩

set_option maxRecDepth 100000 in
theorem liftedUpto (os : Os) (started : os.Started) (H : Type) (enc : TypeId × Value → H) (F : Stop.Interp) :
    ReturnsInHanded {} Tryd.checked os 5 .any ((Rows.OpenSpec.upto Rows.fnAgainSpec).preRow enc Tryd.prog Tryd.f5 Rows.fnAgainUptoRow.domain false Rows.fnAgainUptoRow.laid) (((Rows.OpenSpec.upto Rows.fnAgainSpec).at F).post enc Tryd.prog Tryd.f5 false true false false) := by
  obtain ⟨places, hx⟩ := reads os enc
  refine returnsInHanded_of_row (C := Tryd.checked) (s := Rows.OpenSpec.upto Rows.fnAgainSpec) fin.own started (by kernel_rfl) Tryd.func5
    (witness_row_at (enc := enc) (C := Tryd.checked) false (fin.laidWorldE os) #[.string .empty] rfl (by kernel_rfl) (by kernel_rfl) (by kernel_rfl)
      (OpenSpec.preRow_of_cond 8 hx (by kernel_rfl) (fun k hk => by cases hk; kernel_rfl) (by kernel_rfl) (laid_met os))) ?_
  intro W base args ds gs before hval hW _ hcond _ hL _ _
  exact contract H enc W base args ds gs before hval hW hL (hcond _ rfl)

set_option maxRecDepth 100000 in
set_option maxHeartbeats 4000000 in
theorem closed : joinedFacts Tryd.prog 5 Tryd.f5 (Rows.OpenSpec.upto Rows.fnAgainSpec).bare Rows.fnAgainUptoRow = true := by
  unfold joinedFacts
  repeat' (with_reducible refine fin.and_mk ?_ ?_)
  all_goals first | (with_reducible exact fin.k_enter) | (rw [fin.k_final]; rfl) | (rw [fin.k_make]; rfl) | (as_aux_lemma => kernel_rfl)
theorem saidUpto : Rows.FnAgainUptoSaid :=
  OpenClaim.holds_of_cond 5 Tryd.f5 rfl rfl rfl rfl rfl rfl rfl ⟨rfl, rfl, rfl, rfl, rfl⟩ rfl rfl rfl rfl rfl (by as_aux_lemma => kernel_rfl) Tryd.func5 closed
    (of_decide_eq_true (by as_aux_lemma => kernel_rfl)) (by unfold Func.isWrapper; first | (rw [if_pos (by decide +kernel)]; kernel_rfl) | (rw [if_neg (by decide +kernel)]; exact ⟨rfl, rfl⟩))
    (fun os started H enc _ F => by rw [OpenClaim.pre_eq_preRow]; exact liftedUpto os started H enc F)
theorem plain (f : FuncId) (fn : Func) (hf : Tryd.pinned.checked.prog.funcNamed "lib-bellfounder/laws.FnAgain" = some f) (hfn : Tryd.pinned.checked.prog.funcs[f]? = some fn) :
    true = Tryd.pinned.checked.prog.looks [] ∧ ∀ (j : Nat) t, fn.params[j]? = some t → Tryd.pinned.checked.prog.wantsStandIn t = false := by
  obtain rfl : f = 5 := Option.some.inj ((show Tryd.prog.funcNamed "lib-bellfounder/laws.FnAgain" = some 5 by kernel_rfl).symm.trans hf) |>.symm
  obtain rfl : fn = Tryd.f5 := (Option.some.inj (Tryd.func5.symm.trans hfn)).symm
  refine ⟨fin.looks_true, fun j t ht => ?_⟩
  rw [Tryd.params5] at ht
  have hm := Array.mem_of_getElem? ht
  obtain rfl : t = 9 := by simpa using hm
  exact fin.noStand_string
end Go.Proofs.YtmdbdhamlcgblaaDoor.fnAgain
namespace Go.Proofs.YtmdbdhamlcgblaaDoor
/-- The statement. -/
theorem fnAgain_holds : Rows.FnAgainUptoCardSaid :=
  Claim7.holds_tied_plain_at .later [] _ _ _ _ fnAgain.saidUpto (fun _ h => by cases h) (by as_aux_lemma => kernel_rfl) (fun _ h => by cases h) fnAgainUpto_row_tie rfl ⟨rfl, rfl⟩ fin.main_is rfl fnAgain.plain (by as_aux_lemma => kernel_rfl)
end Go.Proofs.YtmdbdhamlcgblaaDoor
