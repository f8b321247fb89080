/- A stream that ends too early: io.ReadFull, readInt, readSlice. -/
import Derived.Test.YtoebcbmkkhbldaaGreatDoorQRsg
set_option linter.unusedVariables false
namespace Go.Proofs.YtoebcbmkkhbldaaGreatDoor
open Go.RowKit Go.Mem Sais Go.Lib Go.Wire
set_option maxRecDepth 100000

theorem readFull_cut (b q : Nat) (s old : List UInt8) (k o c lo : Nat) (w : World) (hS : RB b q s w) (hB : By w k o old) (hl : s.length < old.length) (hmax : old.length ≤ 1073741824) (hc : old.length ≤ c) (hD : ¬ DB b q k) (hE : Errs lo w) (hlk : lo ≤ k) (hlb : lo ≤ b) (hlq : lo ≤ q) :
    Calls Tryz.prog 40 #[.iface 56 (.pointer (some ⟨b, 0, none⟩)), .slice (some ⟨k, o, none⟩) old.length c] w (RcPost b q old k o w) := by
  have HC := Lib.hid (readAtLeast_cut b q s old k o c lo w hS hB hl hmax hc hD hE hlk hlb hlq)
  clear hS hB hD hE
  go_enter Tryz.func40, Tryz.ntmps40
  go_wp2_with fail
  refine HC.out.mono ?_
  rintro e w1 ⟨n, v, l, rfl, h1, h2⟩
  have HP : Hid (RcPost b q old k o w (.returned (.tuple #[.int .i64 (n : Nat), v])) w1) := ⟨n, v, l, rfl, h1, h2⟩
  clear HC h1 h2
  go_wp2
  go_ret2
  exact HP.out
/-- What readInt leaves where too little is left. -/
def RcuPost (b q k : Nat) (w : World) (e : Ending) (w' : World) : Prop :=
  ∃ (x : Int) (v : Value), e = .returned (.tuple #[.int .i64 x, v]) ∧ ErrOf v ∧ Kept (fun x y => DB b q x ∨ x = k) w w'
theorem readInt_cut (b q : Nat) (s h r : List UInt8) (k lo : Nat) (w : World) (hS : RB b q s w) (hB : By w k 0 (h ++ r)) (hh : h.length = 10) (hr : r.length = 16374) (hl : s.length < 10) (hD : ¬ DB b q k) (hE : Errs lo w) (hlk : lo ≤ k) (hlb : lo ≤ b) (hlq : lo ≤ q) :
    Calls Tryz.prog 39 #[.iface 56 (.pointer (some ⟨b, 0, none⟩)), bufV k] w (RcuPost b q k w) := by
  have HC := readFull_cut b q s h k 0 16384 lo w hS hB.left (by omega) (by omega) (by omega) hD hE hlk hlb hlq
  rw [hh] at HC
  replace HC := Lib.hid HC
  have HR : Hid (∀ (l : List UInt8) (w' : World), By w' k 0 l → l.length = h.length → Kept (fun x y => DB b q x ∨ In k 0 h.length x y) w w' → By w' k 0 (l ++ r)) := fun l w' h1 h2 h3 => by
    have h4 := hB.right
    rw [hh] at h2 h3 h4
    exact By.join h1 (by rw [h2]; exact h4.kept h3 fun j _ hx => hx.elim hD fun hx => by have := hx.2.2; omega)
  have HV := Lib.hid (fun (l : List UInt8) w' (hll : l.length = 16384) (hb : By w' k 0 l) => Tryz.binary_Varint k 0 16384 16384 l w' hll (fun j hj => (hb.br.get j hj)))
  have HH := Lib.hid hh
  have HRR := Lib.hid hr
  unfold bufV
  clear hS hB hD hh hr hE
  go_enter Tryz.func39, Tryz.ntmps39
  go_wp2_with fail
  refine HC.out.mono ?_
  rintro e w1 ⟨n, v, l, rfl, hv, _, hBy, hll, hK⟩
  have HX := Lib.hid (HV.out (l ++ r) w1 (by rw [List.length_append, hll, HH.out, HRR.out]) (HR.out l w1 hBy hll hK))
  have HQ : Hid (∀ x : Int, RcuPost b q k w (.returned (.tuple #[.int .i64 x, v])) w1) := fun x => ⟨x, v, rfl, hv, hK.mono fun x y _ hh => hh.imp id fun hh => hh.1⟩
  clear hv hBy hll hK HC HR HV
  generalize varintDec (l ++ r) = vd at *
  obtain ⟨v1, v2⟩ := vd
  go_wp2_with fail
  refine HX.out.mono ?_
  rintro e w2 ⟨rfl, rfl⟩
  clear HX
  go_wp2
  go_ret2
  exact HQ.out _
/-- What readSlice leaves where a piece is cut. -/
def RsCut (h : List UInt8) (l : List Nat) (s : List UInt8) : Prop := s.length < 10 ∨ ∃ s', s = head h l ++ s' ∧ s'.length < (enc (l.take (fit 10 l))).length
set_option maxHeartbeats 4000000 in
theorem readSlice_cut (b q : Nat) (h bb s : List UInt8) (l : List Nat) (k sb so m sc N lo : Nat) (w : World) (hS : RB b q s w) (hs : RsCut h l s) (hh : h.length = 10) (hl : ∀ x ∈ l, x < 4294967296) (hB : By w k 0 bb) (hbb : bb.length = 16384) (hD : ¬ DB b q k) (hE : Errs lo w) (hlk : lo ≤ k) (hlb : lo ≤ b) (hlq : lo ≤ q) :
    Calls Tryz.prog 41 #[.iface 56 (.pointer (some ⟨b, 0, none⟩)), bufV k, .agg #[.slice (some ⟨sb, so, none⟩) m sc, .slice none 0 0], .int .u64 (N : Nat)] w (RcuPost b q k w) := by
  have hk1 : Grew w (w.alloc (.cells #[.slice (some ⟨sb, so, none⟩) m sc, .slice none 0 0] 70)) := (Kept.refl _ w).alloc _
  have hbs : bb = bb.take 10 ++ bb.drop 10 := (List.take_append_drop 10 bb).symm
  have hB1 : By (w.alloc (.cells #[.slice (some ⟨sb, so, none⟩) m sc, .slice none 0 0] 70)) k 0 (bb.take 10 ++ bb.drop 10) := by rw [← hbs]; exact hB.kept hk1 fun _ _ h => h
  have hS1 := hS.kept hk1 fun _ _ _ h => h
  have hE1 := hE.kept hk1 fun _ _ _ h => h
  rcases hs with hs | ⟨s', rfl, hs⟩
  · have HRI := Lib.hid (readInt_cut b q s (bb.take 10) (bb.drop 10) k lo _ hS1 hB1 (by rw [List.length_take]; omega) (by rw [List.length_drop]; omega) hs hD hE1 hlk hlb hlq)
    have HK1 := Lib.hid hk1
    unfold bufV at *
    clear hS hB hD hE hS1 hB1 hE1 hk1 hbs hbb hl
    go_enter Tryz.func41, Tryz.ntmps41
    go_wp2_with fail
    refine HRI.out.mono ?_
    rintro e w2 ⟨x, v, rfl, ⟨a, rfl⟩, hK⟩
    have HQ : Hid (RcuPost b q k w (.returned (.tuple #[.int .i64 0, .iface 144 (.pointer (some a))])) w2) := ⟨0, _, rfl, ⟨a, rfl⟩, (HK1.out.mono fun _ _ _ h => h.elim).trans' hK fun _ _ _ h => h⟩
    clear hK HK1 HRI
    go_wp2
    go_ret2
    exact HQ.out
  · have hps := psize_le l hl
    have hhl : (head h l).length = 10 := head_len l hh hl
    have HRI := readInt_any (buffer_Rdr b q) (head h l ++ s') (bb.take 10) (bb.drop 10) k _ hS1 hB1 (by rw [List.length_take]; omega) (by rw [List.length_drop]; omega) (by rw [List.length_append]; omega) hD
    have hdec : (varintDec (head h l ++ bb.drop 10)).1 = (psize l : Int) := dec_head h (bb.drop 10) l hl
    have HP1 : Hid (∀ e w2, RnPost (RB b q) (DB b q) (head h l ++ s') (bb.drop 10) k (w.alloc (.cells #[.slice (some ⟨sb, so, none⟩) m sc, .slice none 0 0] 70)) e w2 → e = .returned (.tuple #[.int .i64 (psize l : Nat), .nilIface]) ∧ RB b q s' w2 ∧ By w2 k 0 (head h l ++ bb.drop 10) ∧ Kept (fun x _ => DB b q x ∨ x = k) w w2 ∧ Errs lo w2) := fun e w2 hp => by
      obtain ⟨h1, h2, h3, h4⟩ := hp
      rw [List.take_left' hhl] at h1 h3
      rw [List.drop_left' hhl] at h2
      rw [hdec] at h1
      refine ⟨h1, h2, h3, (hk1.mono fun _ _ _ h => h.elim).trans' h4 fun x y _ hx => hx.imp id fun hx => hx.1, hE1.kept h4 fun x o hx hh => ?_⟩
      rcases hh with (hh | hh) | hh
      · omega
      · omega
      · have := hh.1; omega
    have HPS : Hid (psize l = 10 + (enc (l.take (fit 10 l))).length) := rfl
    have HHL := Lib.hid hhl
    have HBL := Lib.hid hbb
    have HD := Lib.hid hD
    have HRI' := Lib.hid HRI
    have HS' := Lib.hid hs
    unfold bufV at *
    clear hS hB hD hE hS1 hB1 hE1 hk1 hbs hl HRI hdec hhl hbb hs hh
    generalize hP : psize l = P at *
    have HPP := Lib.hid hP
    clear hP
    go_enter Tryz.func41, Tryz.ntmps41
    go_wp2_with fail
    refine HRI'.out.mono ?_
    intro e w2 hp
    obtain ⟨he, hS2, hB2, hK2, hE2⟩ := HP1.out e w2 hp
    subst he
    clear hp HP1 HRI'
    have hoe : ((bb.drop 10).take (P - 10)).length = P - 10 := by have := HBL.out; rw [List.length_take, List.length_drop]; omega
    have hB2' : By w2 k 10 ((bb.drop 10).take (P - 10) ++ (bb.drop 10).drop (P - 10)) := by
      rw [List.take_append_drop]
      have := hB2.right
      rwa [HHL.out, Nat.zero_add] at this
    have HRF := readFull_cut b q s' ((bb.drop 10).take (P - 10)) k 10 16374 lo w2 hS2 hB2'.left (by have := HS'.out; have := HPS.out; rw [hoe]; omega) (by omega) (by omega) HD.out hE2 hlk hlb hlq
    have HK2 := Lib.hid hK2
    have HQ : Hid (∀ (x : Int) v w3, ErrOf v → Kept (fun x y => DB b q x ∨ In k 10 (P - 10) x y) w2 w3 → RcuPost b q k w (.returned (.tuple #[.int .i64 x, v])) w3) := fun x v w3 h1 h2 => ⟨x, v, rfl, h1, HK2.out.trans' h2 fun x y _ hx => hx.imp id fun hx => hx.1⟩
    have HP2 : Hid (∀ e w3, RcPost b q ((bb.drop 10).take (P - 10)) k 10 w2 e w3 → ∃ (n : Nat) (a : Addr), e = .returned (.tuple #[.int .i64 (n : Nat), .iface 144 (.pointer (some a))]) ∧ ∀ x : Int, RcuPost b q k w (.returned (.tuple #[.int .i64 x, .iface 144 (.pointer (some a))])) w3) := fun e w3 ⟨n, v, l', h1, ⟨a, h2⟩, _, _, _, h3⟩ => by
      subst h2
      rw [hoe] at h3
      exact ⟨n, a, h1, fun x => HQ.out x _ w3 ⟨a, rfl⟩ h3⟩
    rw [hoe] at HRF
    replace HRF := Lib.hid HRF
    clear hoe hB2' hS2 hB2 hK2 hE2 HK2 HQ HPS HHL HBL HD HS'
    have y1 : (0 : Int) ≤ (P : Int) := by omega
    have y2 : (10 : Int) ≤ (P : Int) := by omega
    have y3 : (P : Int) ≤ 16384 := by omega
    have y4 : decide ((P : Int) < 0) = false := by simp
    go_wp2_with fail
    refine HRF.out.mono ?_
    intro e w3 hp
    obtain ⟨n, a, he, hq⟩ := HP2.out e w3 hp
    subst he
    have HQ := Lib.hid (hq 0)
    clear hp hq HP2 HRF y4
    go_wp2
    go_ret2
    exact HQ.out
end Go.Proofs.YtoebcbmkkhbldaaGreatDoor
