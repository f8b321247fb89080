/- io.ReadAtLeast, io.ReadFull over any reader. -/
import Derived.Test.YtoebcbmkkhbldaaDoorQRb
set_option linter.unusedVariables false
namespace Go.Proofs.YtoebcbmkkhbldaaDoor
open Go.RowKit Go.Mem Sais Go.Lib Go.Wire
set_option maxRecDepth 100000

/-- A reader: its type t, its address rp, its method F; RS s w: s is left to be read; D: its blocks. -/
structure Rdr (t : TypeId) (rp : Option Addr) (F : Nat) (RS : List UInt8 → World → Prop) (D : Nat → Prop) : Prop where
  nil : ∀ W : World, (nilAhead 244 t (.pointer rp) "Read").run Tryd.prog W = .ok (some false) W
  meth : ∀ W : World, (method 244 t (.pointer rp) "Read").run Tryd.prog W = .ok (F, .pointer rp) W
  ent : ∀ (a b : Value) (W : World), (callFunc F #[a, b]).run Tryd.prog W = .ok (.enter F #[a, b]) W
  kept : ∀ {S : Nat → Nat → Prop} {s : List UInt8} {w w' : World}, RS s w → Kept S w w' → (∀ x o, D x → ¬ S x o) → RS s w'
  lt : ∀ {s : List UInt8} {w : World}, RS s w → ∀ x, D x → x < w.heap.size
  more : ∀ (s old : List UInt8) (k o c : Nat) (w : World), RS s w → s ≠ [] → By w k o old → 0 < old.length → old.length ≤ 1073741824 → old.length ≤ c → ¬ D k → Calls Tryd.prog F #[.pointer rp, .slice (some ⟨k, o, none⟩) old.length c] w (RdPost RS D s old k o w)
/-- What is left when all is read that was asked for. -/
def RfPost (RS : List UInt8 → World → Prop) (D : Nat → Prop) (s old : List UInt8) (k o : Nat) (w : World) (e : Ending) (w' : World) : Prop :=
  e = .returned (.tuple #[.int .i64 (old.length : Nat), .nilIface]) ∧ RS (s.drop old.length) w' ∧ By w' k o (s.take old.length) ∧ Kept (fun x y => D x ∨ In k o old.length x y) w w'
def RaRel (RS : List UInt8 → World → Prop) (D : Nat → Prop) (s old : List UInt8) (k o : Nat) (w : World) (nv ev : Value) (wr : World) : Prop :=
  ∃ i : Nat, i ≤ old.length ∧ nv = .int .i64 (i : Nat) ∧ ev = .nilIface ∧ Hid (RS (s.drop i) wr) ∧ Hid (By wr k o (s.take i ++ old.drop i)) ∧ Hid (Kept (fun x y => D x ∨ In k o old.length x y) w wr)
theorem ra_step {RS : List UInt8 → World → Prop} {D : Nat → Prop} {s old : List UInt8} {k o i m : Nat} {w wr w' : World} (hi : i < old.length) (hl : old.length ≤ s.length) (hm : m ≤ old.length - i) (hD : ¬ D k) (h1 : By wr k o (s.take i ++ old.drop i)) (hK : Kept (fun x y => D x ∨ In k o old.length x y) w wr)
    (p1 : RS ((s.drop i).drop m) w') (p2 : By w' k (o + i) ((s.drop i).take m ++ (old.drop i).drop m)) (p3 : Kept (fun x y => D x ∨ In k (o + i) (old.drop i).length x y) wr w') :
    RS (s.drop (i + m)) w' ∧ By w' k o (s.take (i + m) ++ old.drop (i + m)) ∧ Kept (fun x y => D x ∨ In k o old.length x y) w w' := by
  have hti : (s.take i).length = i := by rw [List.length_take]; omega
  refine ⟨by rw [List.drop_drop] at p1; exact p1, ?_, ?_⟩
  · have a : By w' k o (s.take i) := h1.left.kept p3 fun j hj hh => by
      rw [hti] at hj
      rcases hh with hh | hh
      · exact hD hh
      · have := hh.2.1; omega
    have b := By.join a (m := (s.drop i).take m ++ (old.drop i).drop m) (by rw [hti]; exact p2)
    rw [← List.append_assoc, List.drop_drop] at b
    rw [List.take_add]; exact b
  · refine hK.trans' p3 fun x y _ hh => ?_
    rcases hh with hh | hh
    · exact .inl hh
    · refine .inr ⟨hh.1, by have := hh.2.1; omega, ?_⟩
      have := hh.2.2
      rw [List.length_drop] at this; omega
theorem ent_read (a b : Value) (W : World) : (callFunc 106 #[a, b]).run Tryd.prog W = .ok (.enter 106 #[a, b]) W := by kernel_rfl
theorem nil_read (b : Nat) (W : World) : (nilAhead 244 38 (.pointer (some ⟨b, 0, none⟩)) "Read").run Tryd.prog W = .ok (some false) W := by kernel_rfl
theorem meth_read (b : Nat) (W : World) : (method 244 38 (.pointer (some ⟨b, 0, none⟩)) "Read").run Tryd.prog W = .ok (106, .pointer (some ⟨b, 0, none⟩)) W := by kernel_rfl
/-- A buffer is a reader. -/
theorem buffer_Rdr (b q : Nat) : Rdr 38 (some ⟨b, 0, none⟩) 106 (RB b q) (DB b q) :=
  ⟨nil_read b, meth_read b, ent_read, fun h hk hs => h.kept hk hs, fun h x hx => by
    obtain ⟨l, off, cap, lr, h1, _⟩ := h
    rcases hx with hx | hx
    · rw [hx]; exact h1.lt.2
    · rw [hx]; exact h1.lt.1, fun s old k o c w hR hs hB h0 hmax _ hD => buffer_Read b q s old k o c w hR hs hB h0 hmax hD⟩
theorem read_none (t : TypeId) (rp : Option Addr) (d : Option Addr) (c : Nat) (w : World) :
    Calls Tryd.prog 26 #[.iface t (.pointer rp), .slice d 0 c, .int .i64 (0 : Nat)] w fun e w' => e = .returned (.tuple #[.int .i64 (0 : Nat), .nilIface]) ∧ w = w' := by
  rw [show ((0 : Nat) : Int) = 0 from rfl]
  go_enter Tryd.func26, Tryd.ntmps26
  go_wp2
  go_loopw [6, 7] (fun nv ev wr => nv = .int .i64 0 ∧ ev = .nilIface ∧ w = wr) (fun _ _ _ => 0)
  case atStart => exact ⟨rfl, rfl, rfl⟩
  case round =>
    obtain ⟨rfl, rfl, rfl⟩ := hrel
    go_wp2
    go_ret2
    exact ⟨rfl, rfl⟩
set_option maxHeartbeats 4000000 in
theorem readAtLeast_any {t : TypeId} {rp : Option Addr} {F : Nat} {RS : List UInt8 → World → Prop} {D : Nat → Prop} (R : Rdr t rp F RS D) (s old : List UInt8) (k o c : Nat) (w : World) (hS : RS s w) (hB : By w k o old) (hl : old.length ≤ s.length) (hmax : old.length ≤ 1073741824) (hc : old.length ≤ c) (hD : ¬ D k) :
    Calls Tryd.prog 26 #[.iface t (.pointer rp), .slice (some ⟨k, o, none⟩) old.length c, .int .i64 (old.length : Nat)] w (RfPost RS D s old k o w) := by
  have hna := R.nil
  have hme := R.meth
  have hen := R.ent
  have HR := Lib.hid R
  have HS := Lib.hid hS
  have HB := Lib.hid hB
  have HD := Lib.hid hD
  clear hS hB hD R
  go_enter Tryd.func26, Tryd.ntmps26
  go_wp2_with fail
  go_loopw [6, 7] (fun nv ev wr => RaRel RS D s old k o w nv ev wr) (fun nv _ _ => old.length - (RowKit.intOf nv).toNat)
  case atStart => exact ⟨0, Nat.zero_le _, rfl, rfl, by simpa using HS, by simpa using HB, Kept.refl _ _⟩
  case round =>
    clear HS HB
    obtain ⟨i, hi, rfl, rfl, HS, HB, HK⟩ := hrel
    by_cases hlt : i < old.length
    · have hdl : (old.drop i).length = old.length - i := by rw [List.length_drop]
      have hsl : s.drop i ≠ [] := by intro h; have := congrArg List.length h; simp at this; omega
      have HC := HR.out.more (s.drop i) (old.drop i) k (o + i) (c - i) wr.drew (HR.out.kept HS.out (Kept.refl (fun _ _ => False) _ |>.drew) fun _ _ _ h => h) hsl (by
        have h1 := HB.out.right
        rwa [List.length_take, Nat.min_eq_left (by omega)] at h1) (by omega) (by omega) (by omega) HD.out
      rw [hdl] at HC
      replace HC := Lib.hid HC
      have HST : Hid (∀ (m : Nat) (w' : World), m ≤ old.length - i → RS ((s.drop i).drop m) w' → By w' k (o + i) ((s.drop i).take m ++ (old.drop i).drop m) → Kept (fun x y => D x ∨ In k (o + i) (old.drop i).length x y) wr.drew w' →
          Hid (RS (s.drop (i + m)) w') ∧ Hid (By w' k o (s.take (i + m) ++ old.drop (i + m))) ∧ Hid (Kept (fun x y => D x ∨ In k o old.length x y) w w')) := fun m w' hm p1 p2 p3 => ra_step hlt hl hm HD.out HB.out HK.out p1 p2 ⟨p3.os, p3.tape, p3.output, p3.size, p3.cell, p3.frozen, p3.block, p3.shape⟩
      clear HS HB HK hsl hdl
      have x1 : ¬ c = i := by omega
      have x2 : (i : Int) ≤ (old.length : Int) := by omega
      have x3 : (i : Int) ≤ (c : Int) := by omega
      have x4 : (0 : Int) ≤ (i : Int) := by omega
      have x5 : (i : Int) < (old.length : Int) := by omega
      go_wp2_with fail
      go_region_with (
        (with_reducible refine HC.out.mono ?_)
        rintro e w3 ⟨m, hm1, hm2, hm3, rfl, p1, p2, p3⟩
        have hm4 : m ≤ old.length - i := by rw [List.length_drop] at hm2; exact hm2
        have HX := Lib.hid (HST.out m w3 hm4 p1 p2 p3)
        clear p1 p2 p3 hm2 hm3 HC HST)
      all_goals (
        go_simp
        go_wp2
        go_roundw
        case rel => exact ⟨i + m, by omega, by go_num, rfl, HX.out.1, HX.out.2.1, HX.out.2.2⟩
        case measure => simp [RowKit.intOf]; omega)
    · obtain rfl : old.length = i := by omega
      have x5 : ¬ (old.length : Int) < (old.length : Int) := by omega
      have HE : Hid (RfPost RS D s old k o w (.returned (.tuple #[.int .i64 (old.length : Nat), .nilIface])) wr) := by
        refine ⟨rfl, HS.out, ?_, HK.out⟩
        have := HB.out
        rwa [List.drop_length, List.append_nil] at this
      clear HS HB HK hlt
      go_wp2
      go_ret2
      exact HE.out
end Go.Proofs.YtoebcbmkkhbldaaDoor
