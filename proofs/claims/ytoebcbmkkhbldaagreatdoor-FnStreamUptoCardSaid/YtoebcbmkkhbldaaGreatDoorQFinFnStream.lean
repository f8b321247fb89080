/- FnStream: for every input of bulk at most 1048576 the law returns true, and its arguments read as they read before. -/
import Derived.Test.YtoebcbmkkhbldaaGreatDoorQFii
import Derived.Test.YtoebcbmkkhbldaaGreatDoorQFie
import Derived.Test.YtoebcbmkkhbldaaGreatDoorQLwSt
set_option linter.unusedVariables false
namespace Go.Proofs.YtoebcbmkkhbldaaGreatDoor.fnStream
open Go.ChangeShapes Go.WideShapes Go.ChangeAt Go.RowKit Go.Mem

set_option maxRecDepth 100000 in
set_option maxHeartbeats 4000000 in
theorem contract (H : Type) (enc : TypeId × Value → H) (W : World) (base : Nat) (args : Array Value) (ds gs : List (DataW H)) (before : List MemPlace)
    (hval : ∀ (j : Nat) t v, Tryz.f3.params[j]? = some t → args[j]? = some v → Value.okWide Tryz.prog W .any base t v)
    (hW : DataW.Whole enc Tryz.prog Tryz.f3.params.toList Rows.fnStreamSpec.vars false W args.toList ds gs before) (hL : laidMetH Tryz.prog Rows.fnStreamRow.laid W) (hk : Rows.uptoSmall H (ds ++ gs) = true) :
    Calls Tryz.prog 3 args W fun e W' => ∃ v, e = .returned v ∧ Rows.fnStreamSpec.post enc Tryz.prog Tryz.f3 false true false false W args v W' := by
  have hW' := hW
  obtain ⟨p, q, hA0, hV, rfl, hfz, hnd⟩ := hW
  have hA : DataW.TrodAll enc Tryz.prog W 0 (fun _ => true) true Tryz.f3.params.toList args.toList ds p := hA0
  rw [Tryz.params3] at hA hval
  obtain ⟨v0, vs0, d0, ds0, p0, q0, hargs, rfl, rfl, h0, r0⟩ := trodAll_cons hA
  obtain ⟨v1, vs1, d1, ds1, p1, q1, rfl, rfl, rfl, h1, r1⟩ := trodAll_cons r0
  obtain ⟨v2, vs2, d2, ds2, p2, q2, rfl, rfl, rfl, h2, r2⟩ := trodAll_cons r1
  obtain ⟨v3, vs3, d3, ds3, p3, q3, rfl, rfl, rfl, h3, r3⟩ := trodAll_cons r2
  obtain ⟨rfl, rfl, rfl⟩ := trodAll_nil r3
  obtain rfl : args = #[v0, v1, v2, v3] := by cases args; simp_all
  obtain ⟨rfl, rfl⟩ := trodVars_none hV
  have hk0 := h0
  obtain ⟨x0, hts0, hln0, hsz0⟩ := fin.open_ts (hval 0 22 v0 rfl rfl) h0
  have hk1 := h1
  obtain ⟨x1, hts1, hln1, hsz1⟩ := fin.open_is (hval 1 23 v1 rfl rfl) h1
  obtain ⟨x2, rfl, rfl, rfl, hm2⟩ := open_int Tryz.underlying3 (hval 2 3 v2 rfl rfl) h2
  obtain ⟨x3, rfl, rfl, rfl, hm3⟩ := Go.ChangeMaps.open_string Tryz.underlying9 (hval 3 9 v3 rfl rfl) h3
  clear hA0
  simp only [List.append_nil] at hW' hk
  have hb := fin.bound hk
  simp only [fin.bulk_cons, fin.bulk_nil, fin.bulk_str, fin.bulk_int] at hb
  have hxl0 : x0.length ≤ 1048576 := by omega
  have hxs0 : ∀ t ∈ x0, t.size ≤ 1048576 := fun t ht => by have := hsz0 t ht; omega
  have hxl1 : x1.length ≤ 1048576 := by omega
  have lo2 := fin.i64_lo hm2
  have hi2 := fin.i64_hi hm2
  have hx3 : x3.size ≤ 1048576 := by omega
  have hM : MaxIs W := fin.maxIsE hL
  refine Calls.mono (fnStream_any x0 x1 x2 x3 _ _ W hxs0 hxl0 hxl1 hx3 hts0 hts1 hM) fun e W' ⟨he, hg⟩ => ?_
  subst he
  have hbl := fin.below hg
  have hlt0 : ∀ x ∈ p0, x.block < W.heap.size := fun x hx => hW'.lt x (by simp [hx])
  have hlt1 : ∀ x ∈ p1, x.block < W.heap.size := fun x hx => hW'.lt x (by simp [hx])
  exact ⟨_, rfl, fin.post_of_args hW' (trodAll_cons_mk (shut_bool Tryz.underlying4 _) trodAll_mk0) (trodAll_cons_mk (Below.trod fin.laidOut (by kernel_rfl) (of_decide_eq_true (by kernel_rfl)) hk0 hbl hlt0) (trodAll_cons_mk (Below.trod fin.laidOut (by kernel_rfl) (of_decide_eq_true (by kernel_rfl)) hk1 hbl hlt1) (trodAll_cons_mk (shut_int Tryz.underlying3 hm2) (trodAll_cons_mk (Go.ChangeMaps.shut_string Tryz.underlying9 hm3) trodAll_mk0)))) rfl (by simp) hbl⟩

theorem laid_met (os : Os) : laidMet Tryz.prog Rows.fnStreamRow.laid ((fin.laidWorldE os).forCall (fun _ _ => 0) ⟨#[], #[.slice none 0 0, .slice none 0 0, .int .i64 0, .string .empty], []⟩).memory :=
  laidMet_of_run' 8 (by kernel_rfl) (by kernel_rfl)
theorem reads (os : Os) {H : Type} (enc : TypeId × Value → H) : ∃ places, DataW.whole enc Tryz.prog ((fin.laidWorldE os).forCall (fun _ _ => 0) ⟨#[], #[.slice none 0 0, .slice none 0 0, .int .i64 0, .string .empty], []⟩).memory Tryz.f3.params.toList Rows.fnStreamSpec.vars false #[Value.slice none 0 0, Value.slice none 0 0, Value.int .i64 0, Value.string .empty].toList 8 = some ([.nil, .nil, .lit (.int .i64 0), .lit (.string [])], [], places) :=
  ⟨[], by kernel_rfl⟩

set_option maxRecDepth 100000 in
theorem liftedUpto (os : Os) (started : os.Started) (H : Type) (enc : TypeId × Value → H) (F : Stop.Interp) :
    ReturnsInHanded {} Tryz.checked os 3 .any ((Rows.OpenSpec.upto Rows.fnStreamSpec).preRow enc Tryz.prog Tryz.f3 Rows.fnStreamUptoRow.domain false Rows.fnStreamUptoRow.laid) (((Rows.OpenSpec.upto Rows.fnStreamSpec).at F).post enc Tryz.prog Tryz.f3 false true false false) := by
  obtain ⟨places, hx⟩ := reads os enc
  refine returnsInHanded_of_row (C := Tryz.checked) (s := Rows.OpenSpec.upto Rows.fnStreamSpec) fin.own started (by kernel_rfl) Tryz.func3
    (witness_row_at (enc := enc) (C := Tryz.checked) false (fin.laidWorldE os) #[.slice none 0 0, .slice none 0 0, .int .i64 0, .string .empty] rfl (by kernel_rfl) (by kernel_rfl) (by kernel_rfl)
      (OpenSpec.preRow_of_cond 8 hx (by kernel_rfl) (fun k hk => by cases hk; kernel_rfl) (by kernel_rfl) (laid_met os))) ?_
  intro W base args ds gs before hval hW _ hcond _ hL _ _
  exact contract H enc W base args ds gs before hval hW hL (hcond _ rfl)

set_option maxRecDepth 100000 in
set_option maxHeartbeats 4000000 in
theorem closed : joinedFacts Tryz.prog 3 Tryz.f3 (Rows.OpenSpec.upto Rows.fnStreamSpec).bare Rows.fnStreamUptoRow = true := by
  unfold joinedFacts
  repeat' (with_reducible refine fin.and_mk ?_ ?_)
  all_goals first | (with_reducible exact fin.k_enter) | (rw [fin.k_final]; rfl) | (rw [fin.k_make]; rfl) | (as_aux_lemma => kernel_rfl)
theorem saidUpto : Rows.FnStreamUptoSaid :=
  OpenClaim.holds_of_cond 3 Tryz.f3 rfl rfl rfl rfl rfl rfl rfl ⟨rfl, rfl, rfl, rfl, rfl⟩ rfl rfl rfl rfl rfl (by as_aux_lemma => kernel_rfl) Tryz.func3 closed
    (of_decide_eq_true (by as_aux_lemma => kernel_rfl)) (by unfold Func.isWrapper; first | (rw [if_pos (by decide +kernel)]; kernel_rfl) | (rw [if_neg (by decide +kernel)]; exact ⟨rfl, rfl⟩))
    (fun os started H enc _ F => by rw [OpenClaim.pre_eq_preRow]; exact liftedUpto os started H enc F)
theorem plain (f : FuncId) (fn : Func) (hf : Tryz.pinned.checked.prog.funcNamed "lib-bellfounder/laws.FnStream" = some f) (hfn : Tryz.pinned.checked.prog.funcs[f]? = some fn) :
    true = Tryz.pinned.checked.prog.looks [] ∧ ∀ (j : Nat) t, fn.params[j]? = some t → Tryz.pinned.checked.prog.wantsStandIn t = false := by
  obtain rfl : f = 3 := Option.some.inj ((show Tryz.prog.funcNamed "lib-bellfounder/laws.FnStream" = some 3 by kernel_rfl).symm.trans hf) |>.symm
  obtain rfl : fn = Tryz.f3 := (Option.some.inj (Tryz.func3.symm.trans hfn)).symm
  refine ⟨fin.looks_true, fun j t ht => ?_⟩
  rw [Tryz.params3] at ht
  have hm := Array.mem_of_getElem? ht
  have hm2 : t = 22 ∨ t = 23 ∨ t = 3 ∨ t = 9 := by simpa using hm
  rcases hm2 with rfl | rfl | rfl | rfl
  all_goals first | (with_reducible exact fin.noStand_strs) | (with_reducible exact fin.noStand_ints) | (with_reducible exact fin.noStand_int) | (with_reducible exact fin.noStand_string)
end Go.Proofs.YtoebcbmkkhbldaaGreatDoor.fnStream
namespace Go.Proofs.YtoebcbmkkhbldaaGreatDoor
/-- The statement. -/
theorem fnStream_holds : Rows.FnStreamUptoCardSaid :=
  Claim7.holds_tied_plain_at .later [] _ _ _ _ fnStream.saidUpto (fun _ h => by cases h) (by as_aux_lemma => kernel_rfl) (fun _ h => by cases h) fnStreamUpto_row_tie rfl ⟨rfl, rfl⟩ fin.main_is rfl fnStream.plain (by as_aux_lemma => kernel_rfl)
end Go.Proofs.YtoebcbmkkhbldaaGreatDoor
