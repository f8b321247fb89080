/- FnStreamLess: for every input of bulk at most 1048576 the law returns true, and its arguments read as they read before. -/
import Derived.Test.YtoebcbmkkhbldaaDoorQFil
import Derived.Test.YtoebcbmkkhbldaaDoorQFie
import Derived.Test.YtoebcbmkkhbldaaDoorQLwSl
set_option linter.unusedVariables false
namespace Go.Proofs.YtoebcbmkkhbldaaDoor.fnStreamLess
open Go.ChangeShapes Go.WideShapes Go.ChangeAt Go.RowKit Go.Mem

set_option maxRecDepth 100000 in
set_option maxHeartbeats 4000000 in
theorem contract (H : Type) (enc : TypeId × Value → H) (W : World) (base : Nat) (args : Array Value) (ds gs : List (DataW H)) (before : List MemPlace)
    (hval : ∀ (j : Nat) t v, Tryd.f3.params[j]? = some t → args[j]? = some v → Value.okWide Tryd.prog W .any base t v)
    (hW : DataW.Whole enc Tryd.prog Tryd.f3.params.toList Rows.fnStreamLessSpec.vars false W args.toList ds gs before) (hL : laidMetH Tryd.prog Rows.fnStreamLessRow.laid W) (hk : Rows.uptoSmall H (ds ++ gs) = true) :
    Calls Tryd.prog 3 args W fun e W' => ∃ v, e = .returned v ∧ Rows.fnStreamLessSpec.post enc Tryd.prog Tryd.f3 false true false false W args v W' := by
  have hW' := hW
  obtain ⟨p, q, hA0, hV, rfl, hfz, hnd⟩ := hW
  have hA : DataW.TrodAll enc Tryd.prog W 0 (fun _ => true) true Tryd.f3.params.toList args.toList ds p := hA0
  rw [Tryd.params3] at hA hval
  obtain ⟨v0, vs0, d0, ds0, p0, q0, hargs, rfl, rfl, h0, r0⟩ := trodAll_cons hA
  obtain ⟨v1, vs1, d1, ds1, p1, q1, rfl, rfl, rfl, h1, r1⟩ := trodAll_cons r0
  obtain ⟨rfl, rfl, rfl⟩ := trodAll_nil r1
  obtain rfl : args = #[v0, v1] := by cases args; simp_all
  obtain ⟨rfl, rfl⟩ := trodVars_none hV
  have hk0 := h0
  obtain ⟨x0, hts0, hln0, hsz0⟩ := fin.open_ts (hval 0 22 v0 rfl rfl) h0
  obtain ⟨x1, rfl, rfl, rfl, hm1⟩ := Go.ChangeMaps.open_string Tryd.underlying9 (hval 1 9 v1 rfl rfl) h1
  clear hA0
  simp only [List.append_nil] at hW' hk
  have hb := fin.bound hk
  simp only [fin.bulk_cons, fin.bulk_nil, fin.bulk_str] at hb
  have hxl0 : x0.length ≤ 1048576 := by omega
  have hxs0 : ∀ t ∈ x0, t.size ≤ 1048576 := fun t ht => by have := hsz0 t ht; omega
  have hx1 : x1.size ≤ 1048576 := by omega
  have hM : MaxIs W := fin.maxIsE hL
  refine Calls.mono (fnStreamLess_any x0 x1 _ W hxs0 hxl0 hx1 hts0 hM) fun e W' ⟨he, hg⟩ => ?_
  subst he
  have hbl := fin.below hg
  have hlt0 : ∀ x ∈ p0, x.block < W.heap.size := fun x hx => hW'.lt x (by simp [hx])
  exact ⟨_, rfl, fin.post_of_args hW' (trodAll_cons_mk (shut_bool Tryd.underlying4 _) trodAll_mk0) (trodAll_cons_mk (Below.trod fin.laidOut (by kernel_rfl) (of_decide_eq_true (by kernel_rfl)) hk0 hbl hlt0) (trodAll_cons_mk (Go.ChangeMaps.shut_string Tryd.underlying9 hm1) trodAll_mk0)) rfl (by simp) hbl⟩

theorem laid_met (os : Os) : laidMet Tryd.prog Rows.fnStreamLessRow.laid ((fin.laidWorldE os).forCall (fun _ _ => 0) ⟨#[], #[.slice none 0 0, .string .empty], []⟩).memory :=
  laidMet_of_run' 8 (by kernel_rfl) (by kernel_rfl)
theorem reads (os : Os) {H : Type} (enc : TypeId × Value → H) : ∃ places, DataW.whole enc Tryd.prog ((fin.laidWorldE os).forCall (fun _ _ => 0) ⟨#[], #[.slice none 0 0, .string .empty], []⟩).memory Tryd.f3.params.toList Rows.fnStreamLessSpec.vars false #[Value.slice none 0 0, Value.string .empty].toList 8 = some ([.nil, .lit (.string [])], [], places) :=
  ⟨[], by kernel_rfl⟩

set_option maxRecDepth 100000 in
theorem liftedUpto (os : Os) (started : os.Started) (H : Type) (enc : TypeId × Value → H) (F : Stop.Interp) :
    ReturnsInHanded {} Tryd.checked os 3 .any ((Rows.OpenSpec.upto Rows.fnStreamLessSpec).preRow enc Tryd.prog Tryd.f3 Rows.fnStreamLessUptoRow.domain false Rows.fnStreamLessUptoRow.laid) (((Rows.OpenSpec.upto Rows.fnStreamLessSpec).at F).post enc Tryd.prog Tryd.f3 false true false false) := by
  obtain ⟨places, hx⟩ := reads os enc
  refine returnsInHanded_of_row (C := Tryd.checked) (s := Rows.OpenSpec.upto Rows.fnStreamLessSpec) fin.own started (by kernel_rfl) Tryd.func3
    (witness_row_at (enc := enc) (C := Tryd.checked) false (fin.laidWorldE os) #[.slice none 0 0, .string .empty] rfl (by kernel_rfl) (by kernel_rfl) (by kernel_rfl)
      (OpenSpec.preRow_of_cond 8 hx (by kernel_rfl) (fun k hk => by cases hk; kernel_rfl) (by kernel_rfl) (laid_met os))) ?_
  intro W base args ds gs before hval hW _ hcond _ hL _ _
  exact contract H enc W base args ds gs before hval hW hL (hcond _ rfl)

set_option maxRecDepth 100000 in
set_option maxHeartbeats 4000000 in
theorem closed : joinedFacts Tryd.prog 3 Tryd.f3 (Rows.OpenSpec.upto Rows.fnStreamLessSpec).bare Rows.fnStreamLessUptoRow = true := by
  unfold joinedFacts
  repeat' (with_reducible refine fin.and_mk ?_ ?_)
  all_goals first | (with_reducible exact fin.k_enter) | (rw [fin.k_final]; rfl) | (rw [fin.k_make]; rfl) | (as_aux_lemma => kernel_rfl)
theorem saidUpto : Rows.FnStreamLessUptoSaid :=
  OpenClaim.holds_of_cond 3 Tryd.f3 rfl rfl rfl rfl rfl rfl rfl ⟨rfl, rfl, rfl, rfl, rfl⟩ rfl rfl rfl rfl rfl (by as_aux_lemma => kernel_rfl) Tryd.func3 closed
    (of_decide_eq_true (by as_aux_lemma => kernel_rfl)) (by unfold Func.isWrapper; first | (rw [if_pos (by decide +kernel)]; kernel_rfl) | (rw [if_neg (by decide +kernel)]; exact ⟨rfl, rfl⟩))
    (fun os started H enc _ F => by rw [OpenClaim.pre_eq_preRow]; exact liftedUpto os started H enc F)
theorem plain (f : FuncId) (fn : Func) (hf : Tryd.pinned.checked.prog.funcNamed "lib-bellfounder/laws.FnStreamLess" = some f) (hfn : Tryd.pinned.checked.prog.funcs[f]? = some fn) :
    true = Tryd.pinned.checked.prog.looks [] ∧ ∀ (j : Nat) t, fn.params[j]? = some t → Tryd.pinned.checked.prog.wantsStandIn t = false := by
  obtain rfl : f = 3 := Option.some.inj ((show Tryd.prog.funcNamed "lib-bellfounder/laws.FnStreamLess" = some 3 by kernel_rfl).symm.trans hf) |>.symm
  obtain rfl : fn = Tryd.f3 := (Option.some.inj (Tryd.func3.symm.trans hfn)).symm
  refine ⟨fin.looks_true, fun j t ht => ?_⟩
  rw [Tryd.params3] at ht
  have hm := Array.mem_of_getElem? ht
  have hm2 : t = 22 ∨ t = 9 := by simpa using hm
  rcases hm2 with rfl | rfl
  all_goals first | (with_reducible exact fin.noStand_strs) | (with_reducible exact fin.noStand_string)
end Go.Proofs.YtoebcbmkkhbldaaDoor.fnStreamLess
namespace Go.Proofs.YtoebcbmkkhbldaaDoor
/-- The statement. -/
theorem fnStreamLess_holds : Rows.FnStreamLessUptoCardSaid :=
  Claim7.holds_tied_plain_at .later [] _ _ _ _ fnStreamLess.saidUpto (fun _ h => by cases h) (by as_aux_lemma => kernel_rfl) (fun _ h => by cases h) fnStreamLessUpto_row_tie rfl ⟨rfl, rfl⟩ fin.main_is rfl fnStreamLess.plain (by as_aux_lemma => kernel_rfl)
end Go.Proofs.YtoebcbmkkhbldaaDoor
