/- A buffer that is read: (*bytes.Buffer).empty, Read, String. -/
import Derived.Test.YtoebcbmkkhbldaaDoorQWrx
import Derived.StillTailTactics
set_option linter.unusedVariables false
namespace Go.Proofs.YtoebcbmkkhbldaaDoor
open Go.RowKit Go.Mem Sais Go.Lib Go.Wire
set_option maxRecDepth 100000

/-- A buffer at block b, its row at q; s is left to be read. -/
structure RBs (b q : Nat) (l : List UInt8) (off cap : Nat) (lr : Int) (w : World) : Prop where
  c0 : w.cell? ⟨b, 0, none⟩ = some (.slice (some ⟨q, 0, none⟩) l.length cap)
  c1 : w.cell? ⟨b, 1, none⟩ = some (.int .i64 (off : Nat))
  c2 : w.cell? ⟨b, 2, none⟩ = some (.int .i8 lr)
  f : ∀ o, o < 3 → w.frozen? ⟨b, o, none⟩ = false
  r : Br w q 0 l
  ho : off ≤ l.length
  hc : l.length ≤ cap
  max : cap ≤ maxLen
  ne : q ≠ b
  lt : q < w.heap.size ∧ b < w.heap.size
def RB (b q : Nat) (s : List UInt8) (w : World) : Prop := ∃ l off cap lr, RBs b q l off cap lr w ∧ s = l.drop off
/-- The blocks of a buffer that is read. -/
def DB (b q : Nat) : Nat → Prop := fun x => x = b ∨ x = q
theorem RBs.kept {b q : Nat} {l : List UInt8} {off cap : Nat} {lr : Int} {w w' : World} {S : Nat → Nat → Prop} (h : RBs b q l off cap lr w) (hk : Kept S w w') (hs : ∀ x o, DB b q x → ¬ S x o) : RBs b q l off cap lr w' :=
  ⟨(hk.cell b 0 h.lt.2 (hs b 0 (.inl rfl))).trans h.c0, (hk.cell b 1 h.lt.2 (hs b 1 (.inl rfl))).trans h.c1, (hk.cell b 2 h.lt.2 (hs b 2 (.inl rfl))).trans h.c2, fun o ho => (hk.frozen b o h.lt.2).trans (h.f o ho), h.r.kept hk fun j _ => hs q _ (.inr rfl), h.ho, h.hc, h.max, h.ne, Nat.lt_of_lt_of_le h.lt.1 hk.size, Nat.lt_of_lt_of_le h.lt.2 hk.size⟩
theorem RB.kept {b q : Nat} {s : List UInt8} {w w' : World} {S : Nat → Nat → Prop} (h : RB b q s w) (hk : Kept S w w') (hs : ∀ x o, DB b q x → ¬ S x o) : RB b q s w' := by
  obtain ⟨l, off, cap, lr, h1, h2⟩ := h
  exact ⟨l, off, cap, lr, h1.kept hk hs, h2⟩
theorem WB.rb {b : Nat} {g : Option Nat} {l : List UInt8} {w : World} (h : WB b g l w) (hl : l ≠ []) : ∃ q, g = some q ∧ RB b q l w := by
  obtain ⟨lr, ⟨rfl, rfl, hb⟩ | ⟨q, cap, cur, rfl, hb, hq, h1, h2, h3, h4, h5⟩⟩ := h
  · exact (hl rfl).elim
  · skip
    refine ⟨q, rfl, l, 0, cap, lr, ⟨by rw [cell_of_heap hb]; rfl, by rw [cell_of_heap hb]; rfl, by rw [cell_of_heap hb]; rfl, fun o _ => frozen_of_heap hb o, fun j hj => ?_, Nat.zero_le _, h1, h2, h5, lt_of_heap hq, lt_of_heap hb⟩, rfl⟩
    rw [Nat.zero_add, cell_of_heap hq, bf_get hj]
    have h6 : (cur.toList.take l.length)[j]? = some (.int .u8 (l[j].toNat : Int)) := by rw [h4]; simp [byteCells, hj]
    rw [List.getElem?_take_of_lt hj] at h6
    simpa using h6
theorem buffer_empty {b q : Nat} {l : List UInt8} {off cap : Nat} {lr : Int} {w : World} (h : RBs b q l off cap lr w) :
    Calls Tryd.prog 110 #[.pointer (some ⟨b, 0, none⟩)] w fun e w' => e = .returned (.bool (decide (l.length ≤ off))) ∧ ∃ q, w' = w.drewN q := by
  have c0 := h.c0
  have c1 := h.c1
  clear h
  generalize l.length = m at *
  go_enter Tryd.func110, Tryd.ntmps110
  go_wp2
  go_quiet (fail)
  go_wp2
  go_ret
  exact ⟨by simp, _, rfl⟩
theorem ByteV_of {w : World} {b o c : Nat} {l : List UInt8} (h : Br w b o l) (hc : l.length ≤ c) : ByteV (fun j => (l.getD j 0).toNat) l.length w (.slice (some ⟨b, o, none⟩) l.length c) := .inr ⟨b, o, c, rfl, hc, h⟩
theorem bts_list (l : List UInt8) : bts (fun j => (l.getD j 0).toNat) l.length = l := by
  apply List.ext_getElem
  · simp [bts]
  · intro j h1 h2
    simp [bts, h2]
theorem Br.drop {w : World} {b : Nat} {l : List UInt8} (h : Br w b 0 l) (i : Nat) (hi : i ≤ l.length) : Br w b i (l.drop i) := by
  have h1 : Br w b 0 (l.take i ++ l.drop i) := by rw [List.take_append_drop]; exact h
  have := h1.right
  rwa [List.length_take, Nat.min_eq_left hi, Nat.zero_add] at this
/-- What a call of Read leaves, if there is something to be read. -/
def RdPost (RS : List UInt8 → World → Prop) (D : Nat → Prop) (s old : List UInt8) (k o : Nat) (w : World) (e : Ending) (w' : World) : Prop :=
  ∃ m : Nat, 1 ≤ m ∧ m ≤ old.length ∧ m ≤ s.length ∧ e = .returned (.tuple #[.int .i64 (m : Nat), .nilIface]) ∧ RS (s.drop m) w' ∧ By w' k o (s.take m ++ old.drop m) ∧ Kept (fun x y => D x ∨ In k o old.length x y) w w'
theorem infoU8s : (Tryd.prog.info? 5).map (·.size) = some 1 := infoU8
/-- copy(p, ..) -/
theorem copy_bytes (w : World) (k o n c sb so N c2 : Nat) (old s : List UInt8) (hB : By w k o old) (hn : old.length = n) (hS : Br w sb so s) (hs : s.length = N) (ty : TypeId) :
    (Builtin.copy_ #[28, 28] ty #[.slice (some ⟨k, o, none⟩) n c, .slice (some ⟨sb, so, none⟩) N c2]).run Tryd.prog w = .ok (.int .i64 (min n N : Nat)) (w.setCells k o (byteCells (s.take (min n N)))) := by
  have hlen : (byteCells (s.take (min n N))).length = min n N := by rw [byteCells_length, List.length_take, hs]; omega
  have h := run_copy_cells (P := Tryd.prog) w 28 28 ty 5 k o n c ⟨sb, so, none⟩ N c2 (byteCells (s.take (min n N))) Tryd.underlying28 infoU8 (by rw [hlen]; exact Nat.min_comm _ _)
    (fun j v hj => by
      have hj1 : j < min n N := by
        have := (List.getElem?_eq_some_iff.1 hj).1
        rwa [hlen] at this
      have hj2 : j < s.length := by omega
      have e1 : (⟨sb, so, none⟩ : Addr).add j = ⟨sb, so + j, none⟩ := by simp [Addr.add]
      rw [e1, hS.get j hj2, ← hj]
      simp [byteCells, hj1, hj2])
    (fun j hj => by rw [hlen] at hj; rw [(hB j (by omega)).1]; rfl) (fun j hj => by rw [hlen] at hj; exact (hB j (by omega)).2) (byte_one _)
  rw [h, hlen]; rfl
theorem By.copied {w : World} {k o : Nat} {old s : List UInt8} (hB : By w k o old) (m : Nat) (hm : m ≤ old.length) (hs : m ≤ s.length) : By (w.setCells k o (byteCells (s.take m))) k o (s.take m ++ old.drop m) := by
  have e : old = [] ++ old.take m ++ old.drop m := by rw [List.nil_append, List.take_append_drop]
  have h1 : By w k o ([] ++ old.take m ++ old.drop m) := by rw [← e]; exact hB
  have h2 := h1.mid (l := s.take m) (by simp; omega)
  simpa using h2
theorem rb_next {b q k o m : Nat} {l old : List UInt8} {off cap : Nat} {lr : Int} {w w1 : World} (h : RBs b q l off cap lr w) (hK : Kept (fun x _ => x = b) w w1) (h1 : RBs b q l off cap 0 w1) (hB : By w k o old) (hkb : k ≠ b) (hkq : k ≠ q) (hm : m = min old.length (l.length - off)) (hs : off < l.length) (h0 : 0 < old.length) :
    RdPost (RB b q) (DB b q) (l.drop off) old k o w (.returned (.tuple #[.int .i64 (m : Nat), .nilIface])) (((w1.setCells k o (byteCells ((l.drop off).take m))).setCell ⟨b, 1, none⟩ (.int .i64 ((off + m : Nat)))).setCell ⟨b, 2, none⟩ (.int .i8 (-1))) := by
  have hsl : (l.drop off).length = l.length - off := by rw [List.length_drop]
  have hB1 : By w1 k o old := hB.kept hK fun j _ hh => hkb hh
  have hlen : ((l.drop off).take m).length = m := by rw [List.length_take, hsl]; omega
  have hK2 : Kept (In k o m) w1 (w1.setCells k o (byteCells ((l.drop off).take m))) := by
    have := By.keptSets w1 k o ((l.drop off).take m)
    rwa [hlen] at this
  have h2 : RBs b q l off cap 0 (w1.setCells k o (byteCells ((l.drop off).take m))) := h1.kept hK2 fun x y hx hh => by
    rcases hx with hx | hx
    · exact hkb (hh.1.symm.trans hx)
    · exact hkq (hh.1.symm.trans hx)
  have hBc := hB1.copied m (s := l.drop off) (by omega) (by omega)
  generalize w1.setCells k o (byteCells ((l.drop off).take m)) = w2 at *
  have hK3 : Kept (fun x _ => x = b) w2 ((w2.setCell ⟨b, 1, none⟩ (.int .i64 ((off + m : Nat)))).setCell ⟨b, 2, none⟩ (.int .i8 (-1))) := ((Kept.refl (fun x _ => x = b) w2).set _ rfl).set _ rfl
  refine ⟨m, by omega, by omega, by omega, rfl, ⟨l, off + m, cap, -1, ⟨?_, ?_, ?_, fun o' ho => ?_, h2.r.kept hK3 fun j _ hh => h.ne hh, by omega, h.hc, h.max, h.ne, ?_, ?_⟩, by rw [List.drop_drop]⟩, hBc.kept hK3 fun j _ hh => hkb hh, ?_⟩
  · rw [World.cell?_setCell_other _ _ _ _ (by simp), World.cell?_setCell_other _ _ _ _ (by simp)]; exact h2.c0
  · rw [World.cell?_setCell_other _ _ _ _ (by simp), World.cell?_setCell_same _ _ _ h2.c1]
  · rw [World.cell?_setCell_same _ _ _ (u := .int .i8 0)]
    rw [World.cell?_setCell_other _ _ _ _ (by simp)]; exact h2.c2
  · rw [World.frozen?_setCell, World.frozen?_setCell]; exact h2.f o' ho
  · exact Nat.lt_of_lt_of_le h2.lt.1 hK3.size
  · exact Nat.lt_of_lt_of_le h2.lt.2 hK3.size
  · exact (((hK.mono fun x y _ hh => .inl (.inl hh)).trans' hK2 fun x y _ hh => .inr ⟨hh.1, hh.2.1, by have := hh.2.2; omega⟩).trans' hK3 fun x y _ hh => .inl (.inl hh))
set_option maxHeartbeats 4000000 in
theorem buffer_Read (b q : Nat) (s old : List UInt8) (k o c : Nat) (w : World) (hR : RB b q s w) (hs : s ≠ []) (hB : By w k o old) (h0 : 0 < old.length) (hmax : old.length ≤ 1073741824) (hD : ¬ DB b q k) :
    Calls Tryd.prog 106 #[.pointer (some ⟨b, 0, none⟩), .slice (some ⟨k, o, none⟩) old.length c] w (RdPost (RB b q) (DB b q) s old k o w) := by
  obtain ⟨l, off, cap, lr, h, rfl⟩ := hR
  have hkb : k ≠ b := fun e => hD (.inl e)
  have hkq : k ≠ q := fun e => hD (.inr e)
  have hol : off < l.length := by
    rcases Nat.lt_or_ge off l.length with h | h
    · exact h
    · exact (hs (List.drop_of_length_le h)).elim
  have c2 := h.c2
  have f2 := h.f 2 (by omega)
  have hK1 : Kept (fun x _ => x = b) w (w.setCell ⟨b, 2, none⟩ (.int .i8 0)) := (Kept.refl (fun x _ => x = b) w).set _ rfl
  have h1 : RBs b q l off cap 0 (w.setCell ⟨b, 2, none⟩ (.int .i8 0)) := ⟨by rw [World.cell?_setCell_other _ _ _ _ (by simp)]; exact h.c0, by rw [World.cell?_setCell_other _ _ _ _ (by simp)]; exact h.c1, World.cell?_setCell_same _ _ _ c2, fun o' ho => by rw [World.frozen?_setCell]; exact h.f o' ho, h.r.kept hK1 fun j _ hh => h.ne hh, h.ho, h.hc, h.max, h.ne, by rw [World.size_setCell]; exact h.lt.1, by rw [World.size_setCell]; exact h.lt.2⟩
  have HN := Lib.hid (fun w1 (hK : Kept (fun x _ => x = b) w w1) (h1 : RBs b q l off cap 0 w1) => rb_next (k := k) (o := o) (m := min old.length (l.length - off)) h hK h1 hB hkb hkq rfl hol h0)
  have HCP := Lib.hid (fun w1 (hK : Kept (fun x _ => x = b) w w1) (h1 : RBs b q l off cap 0 w1) ty => copy_bytes w1 k o old.length c q off (l.length - off) (cap - off) old (l.drop off) (hB.kept hK fun j _ hh => hkb hh) rfl (h1.r.drop off h1.ho) (by rw [List.length_drop]) ty)
  have HE := Lib.hid (buffer_empty h1)
  have HH1 := Lib.hid h1
  have HK1 := Lib.hid hK1
  have hho := h.ho
  have hhc := h.hc
  have hmx := h.max
  unfold maxLen at hmx
  have hdc : decide (l.length ≤ off) = false := by simp; omega
  rw [hdc] at HE
  clear h h1 hK1 hB hs hD hdc
  go_enter Tryd.func106, Tryd.ntmps106
  go_wp2_with fail
  refine HE.out.mono ?_
  rintro e w1 ⟨rfl, n1, rfl⟩
  have HH2 : Hid (RBs b q l off cap 0 ((w.setCell ⟨b, 2, none⟩ (.int .i8 0)).drewN n1)) := HH1.out.kept (Kept.refl (fun _ _ => False) _ |>.drewN n1) fun _ _ _ h => h
  have HK2 := Lib.hid (HK1.out.drewN n1)
  clear HE HH1 HK1 c2 f2
  generalize (w.setCell ⟨b, 2, none⟩ (.int .i8 0)).drewN n1 = w1 at *
  have hcp := HCP.out w1 HK2.out HH2.out
  have hcp2 := HCP.out w1.drew HK2.out.drew (HH2.out.kept (Kept.refl (fun _ _ => False) _ |>.drew) fun _ _ _ h => h)
  have HX := Lib.hid (HN.out w1.drew HK2.out.drew (HH2.out.kept (Kept.refl (fun _ _ => False) _ |>.drew) fun _ _ _ h => h))
  have c0 := HH2.out.c0
  have c1 := HH2.out.c1
  have x2 : (off : Int) ≤ (l.length : Int) := by omega
  have x3 : (off : Int) ≤ (cap : Int) := by omega
  have x4 : (0 : Int) ≤ (off : Int) := by omega
  have x5 : ¬ cap = off := by omega
  have hM : 0 < min old.length (l.length - off) := by omega
  have hM2 : off + min old.length (l.length - off) ≤ l.length := by omega
  have hM3 : ((off + min old.length (l.length - off) : Nat) : Int) = (off : Int) + (min old.length (l.length - off) : Nat) := by omega
  rw [hM3] at HX
  clear HN HCP hM3
  generalize byteCells (List.take (min old.length (l.length - off)) (l.drop off)) = bc at *
  generalize min old.length (l.length - off) = M at *
  have hM4 : (0 : Int) < (M : Int) := by omega
  have hK5 : Kept (fun x _ => x = k) w1.drew (w1.drew.setCells k o bc) := (Kept.sets w1.drew k o bc).mono fun x y _ hh => hh.1
  have c1' : (w1.drew.setCells k o bc).cell? ⟨b, 1, none⟩ = some (.int .i64 (off : Nat)) := (hK5.cell b 1 HH2.out.lt.2 fun h => hkb h.symm).trans c1
  have c2' : (w1.drew.setCells k o bc).cell? ⟨b, 2, none⟩ = some (.int .i8 0) := (hK5.cell b 2 HH2.out.lt.2 fun h => hkb h.symm).trans HH2.out.c2
  have f1' : (w1.drew.setCells k o bc).frozen? ⟨b, 1, none⟩ = false := (hK5.frozen b 1 HH2.out.lt.2).trans (HH2.out.f 1 (by omega))
  have f2' : (w1.drew.setCells k o bc).frozen? ⟨b, 2, none⟩ = false := (hK5.frozen b 2 HH2.out.lt.2).trans (HH2.out.f 2 (by omega))
  clear hcp hK5
  go_wp2_with fail
  go_still_tail 10, (by kernel_rfl)
  change wpList _ _ _ _ _ w1.drew
  clear HH2 HK2 c0 c1
  generalize w1.drew = w2 at *
  generalize w2.setCells k o bc = w3 at *
  go_wp2
  go_ret2
  exact HX.out
end Go.Proofs.YtoebcbmkkhbldaaDoor
