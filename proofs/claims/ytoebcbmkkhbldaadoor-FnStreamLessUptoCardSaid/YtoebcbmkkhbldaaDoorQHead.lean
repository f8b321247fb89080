/- The words of the program's head, and the closed facts that read them. -/
import Derived.Test.YtoebcbmkkhbldaaDoorCards
import Derived.KernelRfl
set_option linter.unusedVariables false
namespace Go.Proofs.YtoebcbmkkhbldaaDoor.fin
set_option maxRecDepth 100000
theorem toList_lit (s : String) (L : List Char) (h : s = String.ofList L) : s.toList = L := by rw [h, String.toList_ofList]
theorem headIs : Tryd.prog.initOrder = "harness 1db192d23542441b0f22f9771f564ad7a5b241612906ac26035805ce097bdd47 cut at lib-bellfounder/laws.FnStreamLess" := by kernel_rfl
def headChars : { L : List Char // "harness 1db192d23542441b0f22f9771f564ad7a5b241612906ac26035805ce097bdd47 cut at lib-bellfounder/laws.FnStreamLess" = String.ofList L } := ⟨_, rfl⟩
theorem head_toList : Tryd.prog.initOrder.toList = headChars.1 := (congrArg String.toList headIs).trans (toList_lit _ _ headChars.2)
def w1 : { L : List Char // "harness" = String.ofList L } := ⟨_, rfl⟩
def w2 : { L : List Char // "1db192d23542441b0f22f9771f564ad7a5b241612906ac26035805ce097bdd47" = String.ofList L } := ⟨_, rfl⟩
def w3 : { L : List Char // "cut" = String.ofList L } := ⟨_, rfl⟩
def w4 : { L : List Char // "at" = String.ofList L } := ⟨_, rfl⟩
def w5 : { L : List Char // "lib-bellfounder/laws.FnStreamLess" = String.ofList L } := ⟨_, rfl⟩
theorem ws_word (r : List Char) : ∀ w : List Char, (w.all fun c => c != Char.ofNat 32) = true → wordsSigns (w ++ Char.ofNat 32 :: r) = w :: wordsSigns r
  | [], _ => rfl
  | c :: w, h => by
    rw [List.all_cons, Bool.and_eq_true] at h
    have ih := ws_word r w h.2
    have hc : c ≠ Char.ofNat 32 := by simpa using h.1
    rw [List.cons_append, wordsSigns, ih]
    exact hc
theorem words : wordsSigns Tryd.prog.initOrder.toList = w1.1 :: w2.1 :: w3.1 :: w4.1 :: wordsSigns w5.1 := by
  rw [head_toList, show headChars.1 = w1.1 ++ Char.ofNat 32 :: (w2.1 ++ Char.ofNat 32 :: (w3.1 ++ Char.ofNat 32 :: (w4.1 ++ Char.ofNat 32 :: w5.1))) by kernel_rfl,
    ws_word _ w1.1 (by kernel_rfl), ws_word _ w2.1 (by kernel_rfl), ws_word _ w3.1 (by kernel_rfl), ws_word _ w4.1 (by kernel_rfl)]
theorem charLe (a b : Char) : decide (a ≤ b) = Nat.ble a.toNat b.toNat := by
  rw [Bool.eq_iff_iff, decide_eq_true_eq, Nat.ble_eq]
  exact Iff.rfl
theorem sumSigns : isSumSigns w2.1 = true := by
  unfold isSumSigns
  simp only [charLe]
  kernel_rfl
theorem behind_gen (h s : List Char) (r : List (List Char)) (hs : isSumSigns s = true) (hh : (h == "harness".toList) = true) : behindMainWord (h :: s :: r) = r := by
  unfold behindMainWord
  simp only [hs, hh, Bool.true_or, Bool.and_self, if_true]
theorem isHarness : (w1.1 == "harness".toList) = true := by
  rw [toList_lit "harness" _ rfl]
  kernel_rfl
theorem behind (r : List (List Char)) : behindMainWord (w1.1 :: w2.1 :: r) = r := behind_gen _ _ r sumSigns isHarness
theorem main_gen (P : Program) (h s : List Char) (r : List (List Char)) (hw : wordsSigns P.initOrder.toList = h :: s :: r) (hs : isSumSigns s = true) (hh : (h == "harness".toList) = true) : P.mainIs = some (true, s) := by
  unfold Program.mainIs
  rw [hw]
  simp only [hs, hh, Bool.not_true, if_true]
  rfl
theorem main_is : Tryd.pinned.checked.prog.mainIs = some (true, "1db192d23542441b0f22f9771f564ad7a5b241612906ac26035805ce097bdd47".toList) :=
  (main_gen Tryd.prog _ _ _ words sumSigns isHarness).trans (congrArg (fun s => some (true, s)) (toList_lit "1db192d23542441b0f22f9771f564ad7a5b241612906ac26035805ce097bdd47" _ w2.2).symm)
theorem k_lifts : Tryd.prog.headLifts = [] := by
  unfold Program.headLifts
  rw [words, behind, toList_lit "cut" _ rfl]
  kernel_rfl
theorem hb : behindMainWord (wordsSigns Tryd.prog.initOrder.toList) = w3.1 :: (w4.1 :: wordsSigns w5.1) := by rw [words]; exact behind _
theorem n_gc : (w3.1 == "gc".toList) = false := by
  rw [toList_lit "gc" _ rfl]; kernel_rfl
theorem n_spec : (w3.1 == "spec".toList) = false := by
  rw [toList_lit "spec" _ rfl]; kernel_rfl
theorem n_carried : (w3.1 == "carried".toList) = false := by
  rw [toList_lit "carried" _ rfl]; kernel_rfl
theorem y_cut : (w3.1 == "cut".toList) = true := by
  rw [toList_lit "cut" _ rfl]; kernel_rfl
theorem make_gen (P : Program) (c : List Char) (r : List (List Char)) (hb : behindMainWord (wordsSigns P.initOrder.toList) = c :: r) (h1 : (c == "gc".toList) = false) (h2 : (c == "spec".toList) = false) (h3 : (c == "cut".toList) = true) : P.make = some .cut := by
  unfold Program.make
  rw [hb]
  simp only [h1, h2, h3, Bool.or_self, Bool.true_or, if_true]
  rfl
theorem k_make : Tryd.prog.make = some .cut := make_gen Tryd.prog _ _ hb n_gc n_spec y_cut
theorem final_gen (P : Program) (c : List Char) (r : List (List Char)) (hb : behindMainWord (wordsSigns P.initOrder.toList) = c :: r) (h1 : (c == "carried".toList) = false) (hl : P.headLifts = []) : P.liftsFinal = false := by
  unfold Program.liftsFinal
  rw [hb, hl]
  have e : (some c == some "carried".toList) = false := h1
  simp only [List.head?_cons, e, Bool.false_and, Bool.false_or]
  rfl
theorem k_final : Tryd.prog.liftsFinal = false := final_gen Tryd.prog _ _ hb n_carried k_lifts
theorem strip0 : stripLifts liftWords (w3.1 :: (w4.1 :: wordsSigns w5.1)) = ([], w3.1 :: (w4.1 :: wordsSigns w5.1)) := by kernel_rfl
theorem enter_gen (P : Program) (c : List Char) (r : List (List Char)) (hb : behindMainWord (wordsSigns P.initOrder.toList) = c :: r) (h1 : (c == "gc".toList) = false) (h2 : (c == "spec".toList) = false) (h3 : (c == "carried".toList) = false) (h4 : (c == "cut".toList) = true)
    (hs : stripLifts liftWords (c :: r) = ([], c :: r)) (h5 : P.laysLater = false) (h6 : P.bearsReflect = false) (h7 : P.doorFits [] = true) : P.mayEnter = true := by
  unfold Program.mayEnter
  rw [hb]
  have e : (some c == some "cut".toList) = true := h4
  simp only [h1, h2, h3, hs, h5, h6, h7, List.head?_cons, e, Bool.or_self, Bool.false_and, Bool.false_or, Bool.not_false, Bool.or_true, Bool.and_true, Bool.true_and]
  try rfl
theorem k_enter : Tryd.prog.mayEnter = true := enter_gen Tryd.prog _ _ hb n_gc n_spec n_carried y_cut strip0 (by kernel_rfl) (by kernel_rfl) (by kernel_rfl)
end Go.Proofs.YtoebcbmkkhbldaaDoor.fin
