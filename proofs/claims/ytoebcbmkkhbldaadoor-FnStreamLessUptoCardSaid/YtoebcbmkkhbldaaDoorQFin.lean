/- What the frame of the statements asks: the bound on the bulk, the listed variable, the last step. -/
import Derived.Test.YtoebcbmkkhbldaaDoorCards
import Derived.Test.YtoebcbmkkhbldaaDoorTie
import Derived.Test.YtoebcbmkkhbldaaDoorA7
import Derived.Test.YtoebcbmkkhbldaaDoorQHead
import Derived.WalkKit
import Derived.ProofKit
import Derived.OpenShut
import Derived.Deep.DeepHandedRow
import Derived.Lib.LaidTab
import Derived.Below
import Derived.ChangeSame
set_option linter.unusedVariables false
namespace Go.Proofs.YtoebcbmkkhbldaaDoor.fin
open Go.ChangeShapes Go.WideShapes Go.ChangeAt Go.RowKit Go.Mem

theorem own : ownKnob Tryd.prog.godebug = none := by kernel_rfl
theorem gMax : Tryd.prog.globalNamed "index/suffixarray.maxData32" = some 0 := by kernel_rfl
theorem gMaxType : (Tryd.prog.globals[0]?).map (·.type) = some 3 := by kernel_rfl
/-- What the row's list gives. -/
theorem maxIs {W : World} {rest : List (String × DataW Unit)} (h : laidMet Tryd.prog (("index/suffixarray.maxData32", Rows.laid_index_suffixarray_maxData32) :: rest) W) : MaxIs W := by
  obtain ⟨ps, ⟨g', t', cs, fuel, p, q, hg', ht', hvar, hd, _, _⟩, _⟩ := h
  obtain rfl := Option.some.inj (gMax.symm.trans hg')
  obtain rfl := Option.some.inj (gMaxType.symm.trans ht')
  obtain ⟨z, hc, hx, _⟩ := DataW.trod_int Tryd.underlying3 hd
  have hz : z = 2147483647 := by
    have := congrArg Prod.fst hx
    simp [Rows.laid_index_suffixarray_maxData32] at this
    exact this.symm
  subst hz
  have h0 := World.var?_cell gMax hvar 0
  unfold MaxIs
  rw [h0, ← Array.getElem?_toList, hc]; rfl
theorem looks_true : true = Tryd.pinned.checked.prog.looks [] := by
  unfold Program.looks
  refine (List.any_eq_true.2 ⟨26, List.mem_range.2 (of_decide_eq_true (by kernel_rfl)), ?_⟩).symm
  kernel_rfl
theorem noStand_string : Tryd.pinned.checked.prog.wantsStandIn 9 = false := by kernel_rfl
theorem noStand_int : Tryd.pinned.checked.prog.wantsStandIn 3 = false := by kernel_rfl
theorem noStand_byte : Tryd.pinned.checked.prog.wantsStandIn 5 = false := by kernel_rfl
theorem and_mk {a b : Bool} (h1 : a = true) (h2 : b = true) : (a && b) = true := by rw [h1, h2]; rfl
theorem below {w w' : World} (h : Grew w w') : Below w.heap.size w w' := ⟨h.os, h.tape, h.output, h.size, fun k hk => h.block k hk fun _ h => h⟩

/-- The bulk. -/
theorem bulk_str {H : Type} (s : ByteArray) : Rows.uptoBulk (DataW.lit (H := H) (.string s.data.toList)) = s.size + 1 := by
  simp [Rows.uptoBulk]
theorem bulk_int {H : Type} (k : IntKind) (n : Int) : Rows.uptoBulk (DataW.lit (H := H) (.int k n)) = 1 := by
  simp [Rows.uptoBulk]
theorem bulk_cons {H : Type} (d : DataW H) (l : List (DataW H)) : Rows.uptoBulkAll (d :: l) = Rows.uptoBulk d + Rows.uptoBulkAll l := by
  simp [Rows.uptoBulkAll]
theorem bulk_nil {H : Type} : Rows.uptoBulkAll ([] : List (DataW H)) = 0 := by
  simp [Rows.uptoBulkAll]
theorem bound {H : Type} {l : List (DataW H)} (hk : Rows.uptoSmall H l = true) : Rows.uptoBulkAll l ≤ 1048576 := of_decide_eq_true hk
theorem i64_lo {n : Int} (h : (Lit.int .i64 n).wf = true) : -9223372036854775808 ≤ n := by
  simp [Lit.wf] at h
  have e : IntKind.i64.min = -9223372036854775808 := by decide
  omega
theorem i64_hi {n : Int} (h : (Lit.int .i64 n).wf = true) : n < 9223372036854775808 := by
  simp [Lit.wf] at h
  have e : IntKind.i64.max = 9223372036854775807 := by decide
  omega
theorem u8_lo {n : Int} (h : (Lit.int .u8 n).wf = true) : 0 ≤ n := by
  simp [Lit.wf] at h
  have e : IntKind.u8.min = 0 := by decide
  omega
theorem u8_hi {n : Int} (h : (Lit.int .u8 n).wf = true) : n < 256 := by
  simp [Lit.wf] at h
  have e : IntKind.u8.max = 255 := by decide
  omega

section
variable {H : Type} {enc : TypeId × Value → H} {P : Program}
theorem post_of_below {f : Func} {s : ChangeSpec} {apart fresh handsOn again : Bool} {W W' : World} {args : Array Value} {v : Value} {ds gs : List (DataW H)} {before pa pv : List MemPlace}
    (hW : DataW.Whole enc P f.params.toList s.vars apart W args.toList ds gs before)
    (hres : ∀ (b : Nat) (sp : Nat → Bool) (hd : Bool), DataW.TrodAll enc P W' b sp hd f.resultTypes.toList (v.resultList f.resultTypes.size) (s.fn H (ds ++ gs)).results [])
    (hargs : ∀ sp : Nat → Bool, (∀ p ∈ before, sp p.block = true) → DataW.TrodAll enc P W' 0 sp true f.params.toList args.toList (s.fn H (ds ++ gs)).args pa)
    (hvars : ∀ sp : Nat → Bool, (∀ p ∈ before, sp p.block = true) → DataW.TrodVars enc P W' sp s.vars (s.fn H (ds ++ gs)).vars pv)
    (hps : before = pa ++ pv) (hb : Below W.heap.size W W')
    (hok : ∀ (j : Nat) (t : TypeId) (r : Value), f.resultTypes[j]? = some t → (v.resultList f.resultTypes.size)[j]? = some r → Value.okWide P W' .any 0 t r) :
    s.post enc P f apart fresh handsOn again W args v W' := by
  have hlt : ∀ p ∈ before, p.block < W.heap.size := fun p hp => hW.lt p hp
  have hold : ∀ p ∈ before, (fun b => decide (b < W.heap.size)) p.block = true := fun p hp => by simpa using hlt p hp
  refine ⟨ds, gs, before, [], pa, pv, hW, hres _ _ _, hargs _ hold, hvars _ hold, World.keptBut_mono (fun p hp => ⟨hp, ?_⟩) (hb.frame (· ∈ before)), fun _ => ?_⟩
  · rw [hps, List.mem_append] at hp
    exact Or.inr hp
  · obtain ⟨_, _, _, _, _, hz, hn⟩ := hW
    refine ⟨hok, _, _, ([] ++ pa) ++ pv, ⟨[] ++ pa, pv, trodAll_append (hargs _ (fun _ _ => rfl)) (hres _ _ _), hvars _ (fun _ _ => rfl), rfl, ?_, ?_⟩, ?_⟩
    · intro b off hp
      have hin : MemPlace.cell b off ∈ before := by rw [hps]; simpa using hp
      rw [hb.frozen (hlt _ hin)]
      exact hz b off hin
    · intro ha
      have := hn ha
      rw [hps] at this
      simpa using this
    · intro p hp _
      rw [hps]
      simpa using hp
end
/-- A world for the witness: the settled one, the variable holding what its initialiser lays. -/
noncomputable def laidWorld (os : Os) : World :=
  { World.holding Tryd.prog os ⟨#[], #[], []⟩ with heap := (World.holding Tryd.prog os ⟨#[], #[], []⟩).heap.modify 0 fun
      | .cells _ t frozen => .cells #[.int .i64 2147483647] t frozen
      | o => o }
end Go.Proofs.YtoebcbmkkhbldaaDoor.fin
