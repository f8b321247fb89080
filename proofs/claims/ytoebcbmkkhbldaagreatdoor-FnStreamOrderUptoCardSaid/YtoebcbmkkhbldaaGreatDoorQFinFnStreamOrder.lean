/- FnStreamOrder: for every input of bulk at most 1048576 the law returns true, and its arguments read as they read before. -/
import Derived.Test.YtoebcbmkkhbldaaGreatDoorQFie
import Derived.Test.YtoebcbmkkhbldaaGreatDoorQLwSd
set_option linter.unusedVariables false
namespace Go.Proofs.YtoebcbmkkhbldaaGreatDoor.fnStreamOrder
open Go.ChangeShapes Go.WideShapes Go.ChangeAt Go.RowKit Go.Mem

set_option maxRecDepth 100000 in
set_option maxHeartbeats 4000000 in
theorem contract (H : Type) (enc : TypeId × Value → H) (W : World) (base : Nat) (args : Array Value) (ds gs : List (DataW H)) (before : List MemPlace)
    (hval : ∀ (j : Nat) t v, Tryz.f6.params[j]? = some t → args[j]? = some v → Value.okWide Tryz.prog W .any base t v)
    (hW : DataW.Whole enc Tryz.prog Tryz.f6.params.toList Rows.fnStreamOrderSpec.vars false W args.toList ds gs before) (hL : laidMetH Tryz.prog Rows.fnStreamOrderRow.laid W) (hk : Rows.uptoSmall H (ds ++ gs) = true) :
    Calls Tryz.prog 6 args W fun e W' => ∃ v, e = .returned v ∧ Rows.fnStreamOrderSpec.post enc Tryz.prog Tryz.f6 false true false false W args v W' := by
  have hW' := hW
  obtain ⟨p, q, hA0, hV, rfl, hfz, hnd⟩ := hW
  have hA : DataW.TrodAll enc Tryz.prog W 0 (fun _ => true) true Tryz.f6.params.toList args.toList ds p := hA0
  rw [Tryz.params6] at hA hval
  obtain ⟨v0, vs0, d0, ds0, p0, q0, hargs, rfl, rfl, h0, r0⟩ := trodAll_cons hA
  obtain ⟨v1, vs1, d1, ds1, p1, q1, rfl, rfl, rfl, h1, r1⟩ := trodAll_cons r0
  obtain ⟨v2, vs2, d2, ds2, p2, q2, rfl, rfl, rfl, h2, r2⟩ := trodAll_cons r1
  obtain ⟨rfl, rfl, rfl⟩ := trodAll_nil r2
  obtain rfl : args = #[v0, v1, v2] := by cases args; simp_all
  obtain ⟨rfl, rfl⟩ := trodVars_none hV
  obtain ⟨x0, rfl, rfl, rfl, hm0⟩ := Go.ChangeMaps.open_string Tryz.underlying9 (hval 0 9 v0 rfl rfl) h0
  obtain ⟨x1, rfl, rfl, rfl, hm1⟩ := Go.ChangeMaps.open_string Tryz.underlying9 (hval 1 9 v1 rfl rfl) h1
  obtain ⟨x2, rfl, rfl, rfl, hm2⟩ := Go.ChangeMaps.open_string Tryz.underlying9 (hval 2 9 v2 rfl rfl) h2
  clear hA0
  simp only [List.append_nil] at hW' hk
  have hb := fin.bound hk
  simp only [fin.bulk_cons, fin.bulk_nil, fin.bulk_str] at hb
  have hx0 : x0.size ≤ 1048576 := by omega
  have hx1 : x1.size ≤ 1048576 := by omega
  have hx2 : x2.size ≤ 1048576 := by omega
  have hM : MaxIs W := fin.maxIsE hL
  refine Calls.mono (fnStreamOrder_any x0 x1 x2 W hx0 hx1 hx2 hM) fun e W' ⟨he, hg⟩ => ?_
  subst he
  exact ⟨_, rfl, fin.post_of_below (pa := []) (pv := []) hW' (fun _ _ _ => trodAll_cons_mk (shut_bool Tryz.underlying4 _) trodAll_mk0) (fun _ _ => trodAll_cons_mk (Go.ChangeMaps.shut_string Tryz.underlying9 hm0) (trodAll_cons_mk (Go.ChangeMaps.shut_string Tryz.underlying9 hm1) (trodAll_cons_mk (Go.ChangeMaps.shut_string Tryz.underlying9 hm2) trodAll_mk0))) (fun _ _ => rfl) rfl
    (fin.below hg) (ok_one (by kernel_rfl) rfl (okWide_bool_mk Tryz.underlying4 _))⟩

theorem laid_met (os : Os) : laidMet Tryz.prog Rows.fnStreamOrderRow.laid ((fin.laidWorldE os).forCall (fun _ _ => 0) ⟨#[], #[.string .empty, .string .empty, .string .empty], []⟩).memory :=
  laidMet_of_run' 8 (by kernel_rfl) (by kernel_rfl)
theorem reads (os : Os) {H : Type} (enc : TypeId × Value → H) : ∃ places, DataW.whole enc Tryz.prog ((fin.laidWorldE os).forCall (fun _ _ => 0) ⟨#[], #[.string .empty, .string .empty, .string .empty], []⟩).memory Tryz.f6.params.toList Rows.fnStreamOrderSpec.vars false #[Value.string .empty, Value.string .empty, Value.string .empty].toList 8 = some ([.lit (.string []), .lit (.string []), .lit (.string [])], [], places) :=
  ⟨[], by kernel_rfl⟩

set_option maxRecDepth 100000 in
theorem liftedUpto (os : Os) (started : os.Started) (H : Type) (enc : TypeId × Value → H) (F : Stop.Interp) :
    ReturnsInHanded {} Tryz.checked os 6 .any ((Rows.OpenSpec.upto Rows.fnStreamOrderSpec).preRow enc Tryz.prog Tryz.f6 Rows.fnStreamOrderUptoRow.domain false Rows.fnStreamOrderUptoRow.laid) (((Rows.OpenSpec.upto Rows.fnStreamOrderSpec).at F).post enc Tryz.prog Tryz.f6 false true false false) := by
  obtain ⟨places, hx⟩ := reads os enc
  refine returnsInHanded_of_row (C := Tryz.checked) (s := Rows.OpenSpec.upto Rows.fnStreamOrderSpec) fin.own started (by kernel_rfl) Tryz.func6
    (witness_row_at (enc := enc) (C := Tryz.checked) false (fin.laidWorldE os) #[.string .empty, .string .empty, .string .empty] rfl (by kernel_rfl) (by kernel_rfl) (by kernel_rfl)
      (OpenSpec.preRow_of_cond 8 hx (by kernel_rfl) (fun k hk => by cases hk; kernel_rfl) (by kernel_rfl) (laid_met os))) ?_
  intro W base args ds gs before hval hW _ hcond _ hL _ _
  exact contract H enc W base args ds gs before hval hW hL (hcond _ rfl)

set_option maxRecDepth 100000 in
set_option maxHeartbeats 4000000 in
theorem closed : joinedFacts Tryz.prog 6 Tryz.f6 (Rows.OpenSpec.upto Rows.fnStreamOrderSpec).bare Rows.fnStreamOrderUptoRow = true := by
  unfold joinedFacts
  repeat' (with_reducible refine fin.and_mk ?_ ?_)
  all_goals first | (with_reducible exact fin.k_enter) | (rw [fin.k_final]; rfl) | (rw [fin.k_make]; rfl) | (as_aux_lemma => kernel_rfl)
theorem saidUpto : Rows.FnStreamOrderUptoSaid :=
  OpenClaim.holds_of_cond 6 Tryz.f6 rfl rfl rfl rfl rfl rfl rfl ⟨rfl, rfl, rfl, rfl, rfl⟩ rfl rfl rfl rfl rfl (by as_aux_lemma => kernel_rfl) Tryz.func6 closed
    (of_decide_eq_true (by as_aux_lemma => kernel_rfl)) (by unfold Func.isWrapper; first | (rw [if_pos (by decide +kernel)]; kernel_rfl) | (rw [if_neg (by decide +kernel)]; exact ⟨rfl, rfl⟩))
    (fun os started H enc _ F => by rw [OpenClaim.pre_eq_preRow]; exact liftedUpto os started H enc F)
theorem plain (f : FuncId) (fn : Func) (hf : Tryz.pinned.checked.prog.funcNamed "lib-bellfounder/laws.FnStreamOrder" = some f) (hfn : Tryz.pinned.checked.prog.funcs[f]? = some fn) :
    true = Tryz.pinned.checked.prog.looks [] ∧ ∀ (j : Nat) t, fn.params[j]? = some t → Tryz.pinned.checked.prog.wantsStandIn t = false := by
  obtain rfl : f = 6 := Option.some.inj ((show Tryz.prog.funcNamed "lib-bellfounder/laws.FnStreamOrder" = some 6 by kernel_rfl).symm.trans hf) |>.symm
  obtain rfl : fn = Tryz.f6 := (Option.some.inj (Tryz.func6.symm.trans hfn)).symm
  refine ⟨fin.looks_true, fun j t ht => ?_⟩
  rw [Tryz.params6] at ht
  have hm := Array.mem_of_getElem? ht
  obtain rfl : t = 9 := by simpa using hm
  exact fin.noStand_string
end Go.Proofs.YtoebcbmkkhbldaaGreatDoor.fnStreamOrder
namespace Go.Proofs.YtoebcbmkkhbldaaGreatDoor
/-- The statement. -/
theorem fnStreamOrder_holds : Rows.FnStreamOrderUptoCardSaid :=
  Claim7.holds_tied_plain_at .later [] _ _ _ _ fnStreamOrder.saidUpto (fun _ h => by cases h) (by as_aux_lemma => kernel_rfl) (fun _ h => by cases h) fnStreamOrderUpto_row_tie rfl ⟨rfl, rfl⟩ fin.main_is rfl fnStreamOrder.plain (by as_aux_lemma => kernel_rfl)
end Go.Proofs.YtoebcbmkkhbldaaGreatDoor
