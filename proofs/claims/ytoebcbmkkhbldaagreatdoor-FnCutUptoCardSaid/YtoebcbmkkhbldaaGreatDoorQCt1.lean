/- A stream that ends too early: (*bytes.Buffer).Read at its end, io.ReadAtLeast, ReadFull, readInt. -/
import Derived.Test.YtoebcbmkkhbldaaGreatDoorQRdi
import Derived.LaidEql
set_option linter.unusedVariables false
namespace Go.Proofs.YtoebcbmkkhbldaaGreatDoor
open Go.RowKit Go.Mem Sais Go.Lib Go.Wire
set_option maxRecDepth 100000

/-- An error that is not nil. -/
def ErrOf (v : Value) : Prop := ∃ a, v = .iface 144 (.pointer (some a))
/-- The variables of errors hold such errors; they lie below lo. -/
structure Errs (lo : Nat) (w : World) : Prop where
  eof : ∃ v, ErrOf v ∧ w.cell? ⟨3, 0, none⟩ = some v
  unx : ∃ v, ErrOf v ∧ w.cell? ⟨4, 0, none⟩ = some v
  l1 : 3 < lo
  l2 : 4 < lo
theorem Errs.kept {lo : Nat} {S : Nat → Nat → Prop} {w w' : World} (h : Errs lo w) (hk : Kept S w w') (hs : ∀ x o, x < lo → ¬ S x o) : Errs lo w' := by
  obtain ⟨⟨v, h1, h2⟩, ⟨u, h3, h4⟩, h5, h6⟩ := h
  exact ⟨⟨v, h1, (hk.cell _ 0 (World.block_lt_of_cell? w _ h2) (hs _ 0 h5)).trans h2⟩, ⟨u, h3, (hk.cell _ 0 (World.block_lt_of_cell? w _ h4) (hs _ 0 h6)).trans h4⟩, h5, h6⟩
/-- (*bytes.Buffer).Read at the end. -/
def RePost (b q : Nat) (v : Value) (w : World) (e : Ending) (w' : World) : Prop := e = .returned (.tuple #[.int .i64 0, v]) ∧ RB b q [] w' ∧ Kept (fun x _ => x = b) w w'
theorem rb_reset {b q : Nat} {l : List UInt8} {off cap : Nat} {lr : Int} {w : World} (h : RBs b q l off cap lr w) :
    RB b q [] (((w.setCell ⟨b, 0, none⟩ (.slice (some ⟨q, 0, none⟩) 0 cap)).setCell ⟨b, 1, none⟩ (.int .i64 0)).setCell ⟨b, 2, none⟩ (.int .i8 0)) ∧ Kept (fun x _ => x = b) w (((w.setCell ⟨b, 0, none⟩ (.slice (some ⟨q, 0, none⟩) 0 cap)).setCell ⟨b, 1, none⟩ (.int .i64 0)).setCell ⟨b, 2, none⟩ (.int .i8 0)) := by
  have hK : Kept (fun x _ => x = b) w (((w.setCell ⟨b, 0, none⟩ (.slice (some ⟨q, 0, none⟩) 0 cap)).setCell ⟨b, 1, none⟩ (.int .i64 0)).setCell ⟨b, 2, none⟩ (.int .i8 0)) := (((Kept.refl (fun x _ => x = b) w).set _ rfl).set _ rfl).set _ rfl
  refine ⟨⟨[], 0, cap, 0, ⟨?_, ?_, ?_, fun o ho => (hK.frozen b o h.lt.2).trans (h.f o ho), fun j hj => by simp at hj, Nat.le_refl _, Nat.zero_le _, h.max, h.ne, Nat.lt_of_lt_of_le h.lt.1 hK.size, Nat.lt_of_lt_of_le h.lt.2 hK.size⟩, rfl⟩, hK⟩
  · rw [World.cell?_setCell_other _ _ _ _ (by simp), World.cell?_setCell_other _ _ _ _ (by simp), World.cell?_setCell_same _ _ _ h.c0]; rfl
  · rw [World.cell?_setCell_other _ _ _ _ (by simp), World.cell?_setCell_same _ _ _ (u := .int .i64 (off : Nat))]; rfl
    rw [World.cell?_setCell_other _ _ _ _ (by simp)]; exact h.c1
  · rw [World.cell?_setCell_same _ _ _ (u := .int .i8 lr)]
    rw [World.cell?_setCell_other _ _ _ _ (by simp), World.cell?_setCell_other _ _ _ _ (by simp)]; exact h.c2
theorem buffer_Reset {b q : Nat} {l : List UInt8} {off cap : Nat} {lr : Int} {w : World} (h : RBs b q l off cap lr w) :
    Calls Tryz.prog 130 #[.pointer (some ⟨b, 0, none⟩)] w fun e w' => e = .returned (.tuple #[]) ∧ RB b q [] w' ∧ Kept (fun x _ => x = b) w w' := by
  have HX := Lib.hid (rb_reset h)
  have c0 := h.c0
  have c1 := h.c1
  have c2 := h.c2
  have f0 := h.f 0 (by omega)
  have f1 := h.f 1 (by omega)
  have f2 := h.f 2 (by omega)
  have h2 := h.hc
  have x1 : (0 : Int) ≤ (cap : Int) := by omega
  clear h
  generalize l.length = m at *
  go_enter Tryz.func130, Tryz.ntmps130
  go_wp2
  go_end0
  exact ⟨rfl, HX.out⟩
theorem buffer_ReadEnd (b q : Nat) (k o n c : Nat) (v : Value) (w : World) (hR : RB b q [] w) (hE : w.cell? ⟨3, 0, none⟩ = some v) (hne : 3 ≠ b) (h0 : 0 < n) (hn : n ≤ 1073741824) :
    Calls Tryz.prog 129 #[.pointer (some ⟨b, 0, none⟩), .slice (some ⟨k, o, none⟩) n c] w (RePost b q v w) := by
  obtain ⟨l, off, cap, lr, h, he⟩ := hR
  have hol : l.length ≤ off := by
    have := congrArg List.length he
    rw [List.length_drop, List.length_nil] at this; omega
  have c2 := h.c2
  have f2 := h.f 2 (by omega)
  have hK1 : Kept (fun x _ => x = b) w (w.setCell ⟨b, 2, none⟩ (.int .i8 0)) := (Kept.refl (fun x _ => x = b) w).set _ rfl
  have h1 : RBs b q l off cap 0 (w.setCell ⟨b, 2, none⟩ (.int .i8 0)) := ⟨by rw [World.cell?_setCell_other _ _ _ _ (by simp)]; exact h.c0, by rw [World.cell?_setCell_other _ _ _ _ (by simp)]; exact h.c1, World.cell?_setCell_same _ _ _ c2, fun o' ho => by rw [World.frozen?_setCell]; exact h.f o' ho, h.r.kept hK1 fun j _ hh => h.ne hh, h.ho, h.hc, h.max, h.ne, by rw [World.size_setCell]; exact h.lt.1, by rw [World.size_setCell]; exact h.lt.2⟩
  have hE1 : (w.setCell ⟨b, 2, none⟩ (.int .i8 0)).cell? ⟨3, 0, none⟩ = some v := (hK1.cell _ 0 (World.block_lt_of_cell? w _ hE) hne).trans hE
  have HE := Lib.hid (buffer_empty h1)
  have HH1 := Lib.hid h1
  have HK1 := Lib.hid hK1
  have hdc : decide (l.length ≤ off) = true := by simp; omega
  rw [hdc] at HE
  have HE1 := Lib.hid hE1
  clear h h1 hK1 hdc he hE hE1
  go_enter Tryz.func129, Tryz.ntmps129
  go_wp2_with fail
  refine HE.out.mono ?_
  rintro e w1 ⟨rfl, n1, rfl⟩
  have HH2 : Hid (RBs b q l off cap 0 ((w.setCell ⟨b, 2, none⟩ (.int .i8 0)).drewN n1)) := HH1.out.kept (Kept.refl (fun _ _ => False) _ |>.drewN n1) fun _ _ _ h => h
  have HK2 := Lib.hid (HK1.out.drewN n1)
  have HE2 : Hid (((w.setCell ⟨b, 2, none⟩ (.int .i8 0)).drewN n1).cell? ⟨3, 0, none⟩ = some v) := HE1
  clear HE HH1 HK1 c2 f2 HE1
  generalize (w.setCell ⟨b, 2, none⟩ (.int .i8 0)).drewN n1 = w1 at *
  have HRS := Lib.hid (buffer_Reset HH2.out)
  go_wp2_with fail
  refine HRS.out.mono ?_
  rintro e w2 ⟨rfl, hR2, hK2⟩
  have c3 : w2.cell? ⟨3, 0, none⟩ = some v := (hK2.cell _ 0 (World.block_lt_of_cell? w1 _ HE2.out) hne).trans HE2.out
  have HX : Hid (∀ n, RePost b q v w (.returned (.tuple #[.int .i64 0, v])) (w2.drewN n)) := fun n => ⟨rfl, hR2.kept ((Kept.refl (fun _ _ => False) w2).drewN n) fun _ _ _ h => h, (HK2.out.trans hK2).drewN n⟩
  clear hR2 hK2 HRS HH2 HK2 HE2
  have y1 : ¬ (n : Int) = 0 := by omega
  have y2 : ¬ n = 0 := by omega
  go_wp2_with fail
  go_quiet (fail)
  go_wp2
  go_ret2
  exact HX.out _
/-- io.ReadAtLeast where too little is left. -/
def RcPost (b q : Nat) (old : List UInt8) (k o : Nat) (w : World) (e : Ending) (w' : World) : Prop :=
  ∃ (n : Nat) (v : Value) (l : List UInt8), e = .returned (.tuple #[.int .i64 (n : Nat), v]) ∧ ErrOf v ∧ RB b q [] w' ∧ By w' k o l ∧ l.length = old.length ∧ Kept (fun x y => DB b q x ∨ In k o old.length x y) w w'
theorem rc_step {b q k o i m : Nat} {s old : List UInt8} {w wr w' : World} (hi : i < s.length) (hl : s.length < old.length) (hm : m ≤ s.length - i) (hD : ¬ DB b q k) (h1 : By wr k o (s.take i ++ old.drop i)) (hK : Kept (fun x y => DB b q x ∨ In k o old.length x y) w wr)
    (p1 : RB b q ((s.drop i).drop m) w') (p2 : By w' k (o + i) ((s.drop i).take m ++ (old.drop i).drop m)) (p3 : Kept (fun x y => DB b q x ∨ In k (o + i) (old.drop i).length x y) wr w') :
    RB b q (s.drop (i + m)) w' ∧ By w' k o (s.take (i + m) ++ old.drop (i + m)) ∧ Kept (fun x y => DB b q x ∨ In k o old.length x y) w w' := by
  have hti : (s.take i).length = i := by rw [List.length_take]; omega
  refine ⟨by rw [List.drop_drop] at p1; exact p1, ?_, ?_⟩
  · have a : By w' k o (s.take i) := h1.left.kept p3 fun j hj hh => by
      rw [hti] at hj
      rcases hh with hh | hh
      · exact hD hh
      · have := hh.2.1; omega
    have b := By.join a (m := (s.drop i).take m ++ (old.drop i).drop m) (by rw [hti]; exact p2)
    rw [← List.append_assoc, List.drop_drop] at b
    rw [List.take_add]; exact b
  · refine hK.trans' p3 fun x y _ hh => ?_
    rcases hh with hh | hh
    · exact .inl hh
    · refine .inr ⟨hh.1, by have := hh.2.1; omega, ?_⟩
      have := hh.2.2
      rw [List.length_drop] at this; omega
def RcRel (b q : Nat) (s old : List UInt8) (k o : Nat) (E : Value) (w : World) (nv ev : Value) (wr : World) : Prop :=
  ∃ i : Nat, i ≤ s.length ∧ nv = .int .i64 (i : Nat) ∧ (ev = .nilIface ∨ ev = E ∧ i = s.length) ∧ Hid (RB b q (s.drop i) wr) ∧ Hid (By wr k o (s.take i ++ old.drop i)) ∧ Hid (Kept (fun x y => DB b q x ∨ In k o old.length x y) w wr)
theorem Tryz.infoErrC : (Tryz.prog.info? 144).map (·.comparable) = some true := by kernel_rfl
theorem Tryz.infoErrS : (Tryz.prog.info? 163).map (·.size) = some 1 := by kernel_rfl
theorem Tryz.undErr : Tryz.prog.underlying 52 = some (.interface #[("Error", 65)]) := by kernel_rfl
theorem Tryz.undErrP : Tryz.prog.underlying 144 = some (.pointer 163) := by kernel_rfl
theorem eqErr (a : Addr) (W : World) : (binOp .eql 52 (.iface 144 (.pointer (some a))) (.iface 144 (.pointer (some a)))).run Tryz.prog W = .ok (.bool true) W := by
  obtain ⟨i, hi, hcmp⟩ := Option.map_eq_some_iff.1 Tryz.infoErrC
  obtain ⟨j, hj, _⟩ := Option.map_eq_some_iff.1 Tryz.infoErrS
  exact run_eql_iface_ptr_same (P := Tryz.prog) W a Tryz.undErr Tryz.undErrP hi hcmp hj
set_option maxHeartbeats 4000000 in
theorem readAtLeast_cut (b q : Nat) (s old : List UInt8) (k o c lo : Nat) (w : World) (hS : RB b q s w) (hB : By w k o old) (hl : s.length < old.length) (hmax : old.length ≤ 1073741824) (hc : old.length ≤ c) (hD : ¬ DB b q k) (hE : Errs lo w) (hlk : lo ≤ k) (hlb : lo ≤ b) (hlq : lo ≤ q) :
    Calls Tryz.prog 49 #[.iface 56 (.pointer (some ⟨b, 0, none⟩)), .slice (some ⟨k, o, none⟩) old.length c, .int .i64 (old.length : Nat)] w (RcPost b q old k o w) := by
  have hna := nil_read b
  have hme := meth_read b
  have hen := ent_read
  have hK0 : ∀ wr, Kept (fun x y => DB b q x ∨ In k o old.length x y) w wr → Errs lo wr := fun wr h => hE.kept h fun x y hx hh => by
    rcases hh with (hh | hh) | hh
    · omega
    · omega
    · have := hh.1; omega
  obtain ⟨E, ⟨a, hEa⟩, hEc⟩ := hE.eof
  obtain ⟨U, hUe, hUc⟩ := hE.unx
  have HEC : Hid (∀ wr, Kept (fun x y => DB b q x ∨ In k o old.length x y) w wr → wr.cell? ⟨3, 0, none⟩ = some E) := fun wr h => (h.cell 3 0 (World.block_lt_of_cell? w _ hEc) fun hh => by
    have := hE.l1
    rcases hh with (hh | hh) | hh
    · omega
    · omega
    · have := hh.1; omega).trans hEc
  have HUC : Hid (∀ wr, Kept (fun x y => DB b q x ∨ In k o old.length x y) w wr → wr.cell? ⟨4, 0, none⟩ = some U) := fun wr h => (h.cell 4 0 (World.block_lt_of_cell? w _ hUc) fun hh => by
    have := hE.l2
    rcases hh with (hh | hh) | hh
    · omega
    · omega
    · have := hh.1; omega).trans hUc
  have hge : 3 ≠ b := by have := hE.l1; omega
  have HR := Lib.hid (buffer_Rdr b q)
  have HS := Lib.hid hS
  have HB := Lib.hid hB
  have HD := Lib.hid hD
  have HUE := Lib.hid hUe
  have HEE : Hid (ErrOf E) := ⟨a, hEa⟩
  clear hS hB hD hK0 hE hEc hUc hUe
  subst hEa
  go_enter Tryz.func49, Tryz.ntmps49
  go_wp2_with fail
  go_loopw [6, 7] (fun nv ev wr => RcRel b q s old k o (.iface 144 (.pointer (some a))) w nv ev wr) (fun nv ev _ => 2 * (s.length - (RowKit.intOf nv).toNat) + (match ev with | .nilIface => 1 | _ => 0))
  case atStart => exact ⟨0, Nat.zero_le _, rfl, .inl rfl, by simpa using HS, by simpa using HB, Kept.refl _ _⟩
  case round =>
    clear HS HB
    obtain ⟨i, hi, rfl, hev, HS, HB, HK⟩ := hrel
    rcases hev with rfl | ⟨rfl, rfl⟩
    · by_cases hlt : i < s.length
      · have hdl : (old.drop i).length = old.length - i := by rw [List.length_drop]
        have hsl : s.drop i ≠ [] := by intro h; have := congrArg List.length h; simp at this; omega
        have HC := HR.out.more (s.drop i) (old.drop i) k (o + i) (c - i) wr.drew (HR.out.kept HS.out (Kept.refl (fun _ _ => False) _ |>.drew) fun _ _ _ h => h) hsl (by
          have h1 := HB.out.right
          rwa [List.length_take, Nat.min_eq_left (by omega)] at h1) (by omega) (by omega) (by omega) HD.out
        rw [hdl] at HC
        replace HC := Lib.hid HC
        have HST : Hid (∀ (m : Nat) (w' : World), m ≤ s.length - i → RB b q ((s.drop i).drop m) w' → By w' k (o + i) ((s.drop i).take m ++ (old.drop i).drop m) → Kept (fun x y => DB b q x ∨ In k (o + i) (old.drop i).length x y) wr.drew w' →
            Hid (RB b q (s.drop (i + m)) w') ∧ Hid (By w' k o (s.take (i + m) ++ old.drop (i + m))) ∧ Hid (Kept (fun x y => DB b q x ∨ In k o old.length x y) w w')) := fun m w' hm p1 p2 p3 => rc_step hlt hl hm HD.out HB.out HK.out p1 p2 ⟨p3.os, p3.tape, p3.output, p3.size, p3.cell, p3.frozen, p3.block, p3.shape⟩
        clear HS HB HK hsl hdl HEC HUC HUE HEE HR HD
        have x1 : ¬ c = i := by omega
        have x2 : (i : Int) ≤ (old.length : Int) := by omega
        have x3 : (i : Int) ≤ (c : Int) := by omega
        have x4 : (0 : Int) ≤ (i : Int) := by omega
        have x5 : (i : Int) < (old.length : Int) := by omega
        go_wp2_with fail
        go_region_with (
          (with_reducible refine HC.out.mono ?_)
          rintro e w3 ⟨m, hm1, hm2, hm3, rfl, p1, p2, p3⟩
          have hm4 : m ≤ s.length - i := by rw [List.length_drop] at hm3; exact hm3
          have HX := Lib.hid (HST.out m w3 hm4 p1 p2 p3)
          clear p1 p2 p3 hm2 hm3 HC HST)
        all_goals (
          go_simp
          go_wp2
          go_roundw
          case rel => exact ⟨i + m, by omega, by go_num, .inl rfl, HX.out.1, HX.out.2.1, HX.out.2.2⟩
          case measure => simp [RowKit.intOf]; omega)
      · obtain rfl : i = s.length := by omega
        have hR0 : RB b q [] wr.drew := by
          have := HR.out.kept HS.out (Kept.refl (fun _ _ => False) _ |>.drew) fun _ _ _ h => h
          rwa [List.drop_length] at this
        have HC := Lib.hid (buffer_ReadEnd b q k (o + s.length) (old.length - s.length) (c - s.length) (.iface 144 (.pointer (some a))) wr.drew hR0 (HEC.out _ HK.out.drew) hge (by omega) (by omega))
        have HST : Hid (∀ (w' : World) (e : Ending), RePost b q (.iface 144 (.pointer (some a))) wr.drew e w' → Hid (RB b q (s.drop s.length) w') ∧ Hid (By w' k o (s.take s.length ++ old.drop s.length)) ∧ Hid (Kept (fun x y => DB b q x ∨ In k o old.length x y) w w')) := fun w' e ⟨_, p1, p2⟩ => by
          have p3 : Kept (fun x _ => x = b) wr w' := ⟨p2.os, p2.tape, p2.output, p2.size, p2.cell, p2.frozen, p2.block, p2.shape⟩
          refine ⟨?_, HB.out.kept p3 fun j _ hh => HD.out (.inl hh), HK.out.trans' p3 fun x y _ hh => .inl (.inl hh)⟩
          rw [List.drop_length]; exact p1
        clear HS HB HK hR0 hlt hi HEC HUC HUE HEE HR HD
        have x1 : ¬ c = s.length := by omega
        have x2 : ((s.length : Nat) : Int) ≤ (old.length : Int) := by omega
        have x3 : ((s.length : Nat) : Int) ≤ (c : Int) := by omega
        have x4 : (0 : Int) ≤ ((s.length : Nat) : Int) := by omega
        have x5 : ((s.length : Nat) : Int) < (old.length : Int) := by omega
        go_wp2_with fail
        go_region_with (
          (with_reducible refine HC.out.mono ?_)
          intro e w3 hp
          have HX := Lib.hid (HST.out w3 e hp)
          obtain ⟨rfl, _⟩ := hp
          clear HC HST)
        all_goals (
          go_simp
          go_wp2
          go_roundw
          case rel => exact ⟨s.length, Nat.le_refl _, by go_num, .inr ⟨rfl, rfl⟩, HX.out.1, HX.out.2.1, HX.out.2.2⟩
          case measure => simp [RowKit.intOf])
    · have hU := HUC.out wr HK.out
      have hEc := HEC.out wr HK.out
      have hx := eqErr a
      have HL : Hid ((s.take s.length ++ old.drop s.length).length = old.length) := by
        show _ = _
        rw [List.length_append, List.length_take, List.length_drop]; omega
      have HR0 : Hid (RB b q [] wr) := by
        have := HS.out
        rwa [List.drop_length] at this
      have HF : Hid (∀ v, ErrOf v → RcPost b q old k o w (.returned (.tuple #[.int .i64 (s.length : Nat), v])) wr) := fun v hv => ⟨s.length, v, _, rfl, hv, HR0.out, HB.out, HL.out, HK.out⟩
      have x5 : ((s.length : Nat) : Int) < (old.length : Int) := by omega
      have x6 : ¬ (old.length : Int) ≤ ((s.length : Nat) : Int) := by omega
      have x7 : decide ((old.length : Int) ≤ ((s.length : Nat) : Int)) = false := by simp; omega
      clear HS HB HK HL HR0 HEC HUC HR HD
      by_cases h0 : s.length = 0
      · have HF' := Lib.hid (HF.out _ HEE.out)
        have hol : 0 < old.length := by omega
        clear HF hU
        rw [h0] at *
        generalize old.length = ol at *
        go_wp2
        go_ret2
        exact HF'.out
      · have HF' := Lib.hid (HF.out _ HUE.out)
        have x8 : (0 : Int) < ((s.length : Nat) : Int) := by omega
        clear HF
        go_wp2
        go_ret2
        exact HF'.out
end Go.Proofs.YtoebcbmkkhbldaaGreatDoor
