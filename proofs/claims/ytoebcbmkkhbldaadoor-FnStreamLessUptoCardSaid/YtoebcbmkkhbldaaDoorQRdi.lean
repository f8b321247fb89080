/- io.ReadFull, readInt, (*ints).set. -/
import Derived.Test.YtoebcbmkkhbldaaDoorQRdr
set_option linter.unusedVariables false
namespace Go.Proofs.YtoebcbmkkhbldaaDoor
open Go.RowKit Go.Mem Sais Go.Lib Go.Wire
set_option maxRecDepth 100000

theorem readFull_any {t : TypeId} {rp : Option Addr} {F : Nat} {RS : List UInt8 → World → Prop} {D : Nat → Prop} (R : Rdr t rp F RS D) (s old : List UInt8) (k o c : Nat) (w : World) (hS : RS s w) (hB : By w k o old) (hl : old.length ≤ s.length) (hmax : old.length ≤ 1073741824) (hc : old.length ≤ c) (hD : ¬ D k) :
    Calls Tryd.prog 17 #[.iface t (.pointer rp), .slice (some ⟨k, o, none⟩) old.length c] w (RfPost RS D s old k o w) := by
  have HC := Lib.hid (readAtLeast_any R s old k o c w hS hB hl hmax hc hD)
  clear hS hB hD R
  go_enter Tryd.func17, Tryd.ntmps17
  go_wp2_with fail
  refine HC.out.mono ?_
  rintro e w1 hp
  have HP : Hid (RfPost RS D s old k o w (.returned (.tuple #[.int .i64 (old.length : Nat), .nilIface])) w1) := ⟨rfl, hp.2⟩
  obtain ⟨rfl, _⟩ := hp
  clear HC
  go_wp2
  go_ret2
  exact HP.out
theorem readFull_none (t : TypeId) (rp : Option Addr) (d : Option Addr) (c : Nat) (w : World) :
    Calls Tryd.prog 17 #[.iface t (.pointer rp), .slice d 0 c] w fun e w' => e = .returned (.tuple #[.int .i64 (0 : Nat), .nilIface]) ∧ w = w' := by
  have HC := Lib.hid (read_none t rp d c w)
  rw [show ((0 : Nat) : Int) = 0 from rfl] at *
  go_enter Tryd.func17, Tryd.ntmps17
  go_wp2_with fail
  refine HC.out.mono ?_
  rintro e w1 ⟨rfl, rfl⟩
  clear HC
  go_wp2
  go_ret2
  exact ⟨rfl, rfl⟩
def RnPost (RS : List UInt8 → World → Prop) (D : Nat → Prop) (s r : List UInt8) (k : Nat) (w : World) (e : Ending) (w' : World) : Prop :=
  e = .returned (.tuple #[.int .i64 (varintDec (s.take 10 ++ r)).1, .nilIface]) ∧ RS (s.drop 10) w' ∧ By w' k 0 (s.take 10 ++ r) ∧ Kept (fun x y => D x ∨ In k 0 10 x y) w w'
theorem readInt_any {t : TypeId} {rp : Option Addr} {F : Nat} {RS : List UInt8 → World → Prop} {D : Nat → Prop} (R : Rdr t rp F RS D) (s h r : List UInt8) (k : Nat) (w : World) (hS : RS s w) (hB : By w k 0 (h ++ r)) (hh : h.length = 10) (hr : r.length = 16374) (hl : 10 ≤ s.length) (hD : ¬ D k) :
    Calls Tryd.prog 16 #[.iface t (.pointer rp), bufV k] w (RnPost RS D s r k w) := by
  have HC := readFull_any R s h k 0 16384 w hS hB.left (by omega) (by omega) (by omega) hD
  rw [hh] at HC
  replace HC := Lib.hid HC
  have HR : Hid (∀ w', RfPost RS D s h k 0 w (.returned (.tuple #[.int .i64 (h.length : Nat), .nilIface])) w' → RS (s.drop 10) w' ∧ By w' k 0 (s.take 10 ++ r) ∧ Kept (fun x y => D x ∨ In k 0 10 x y) w w') := fun w' hp => by
    obtain ⟨_, h1, h2, h3⟩ := hp
    rw [hh] at h1 h2 h3
    have hlt : (s.take 10).length = 10 := by rw [List.length_take]; omega
    have h4 := hB.right
    rw [hh] at h4
    refine ⟨h1, By.join h2 (by rw [hlt]; exact h4.kept h3 fun j _ hx => hx.elim hD fun hx => by have := hx.2.2; omega), h3⟩
  have hlt : (s.take 10 ++ r).length = 16384 := by rw [List.length_append, List.length_take]; omega
  have HV := Lib.hid (fun w' (hb : By w' k 0 (s.take 10 ++ r)) => Tryd.binary_Varint k 0 16384 16384 (s.take 10 ++ r) w' hlt (fun j hj => (hb.br.get j hj)))
  have HH := Lib.hid hh
  unfold bufV
  clear hS hB hD R hlt hh hr
  go_enter Tryd.func16, Tryd.ntmps16
  go_wp2_with fail
  refine HC.out.mono ?_
  rintro e w1 hp
  have he := hp.1
  rw [he] at hp
  have HP := Lib.hid (HR.out w1 hp)
  rw [HH.out] at he
  subst he
  clear hp HC HR
  replace HV := Lib.hid (HV.out w1 HP.out.2.1)
  have HQ : Hid (RnPost RS D s r k w (.returned (.tuple #[.int .i64 (varintDec (s.take 10 ++ r)).1, .nilIface])) w1) := ⟨rfl, HP.out⟩
  clear HP
  generalize varintDec (s.take 10 ++ r) = vd at *
  obtain ⟨v1, v2⟩ := vd
  go_wp2_with fail
  refine HV.out.mono ?_
  rintro e w2 ⟨rfl, rfl⟩
  clear HV
  go_wp2
  go_ret2
  exact HQ.out
/-- (*ints).set -/
theorem ints_set (xb o n sc sb so i v : Nat) (u : Int) (w : World) (hn : n ≤ 1073741824) (hi : i < n) (hv : v ≤ 1073741824) (c1 : w.cell? ⟨xb, o, none⟩ = some (.slice (some ⟨sb, so, none⟩) n sc)) (c3 : w.cell? ⟨sb, so + i, none⟩ = some (.int .i32 u)) (f3 : w.frozen? ⟨sb, so + i, none⟩ = false) :
    Calls Tryd.prog 28 #[.pointer (some ⟨xb, o, none⟩), .int .i64 (i : Nat), .int .i64 (v : Nat)] w fun e w' => e = .returned (.tuple #[]) ∧ w' = w.setCell ⟨sb, so + i, none⟩ (.int .i32 (v : Nat)) := by
  have q1 := Tryd.neq77s
  have hi' : (i : Int) < (n : Int) := by omega
  have e1 : IntKind.i32.wrap (v : Int) = (v : Int) := by rw [IntKind.wrap_i32]; omega
  go_enter Tryd.func28, Tryd.ntmps28
  go_wp2
  go_end0
  exact ⟨rfl, rfl⟩
end Go.Proofs.YtoebcbmkkhbldaaDoor
