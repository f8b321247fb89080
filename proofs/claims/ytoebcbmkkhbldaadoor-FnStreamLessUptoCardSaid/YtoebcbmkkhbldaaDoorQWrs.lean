/- writeSlice. -/
import Derived.Test.YtoebcbmkkhbldaaDoorQWri
import Derived.Test.YtoebcbmkkhbldaaDoorQWrd
set_option linter.unusedVariables false
namespace Go.Proofs.YtoebcbmkkhbldaaDoor
open Go.RowKit Go.Mem Sais Go.Lib Go.Wire
set_option maxRecDepth 100000

/-- The numbers of a row of int32s. -/
def numsOf (f : Nat → Int) (m : Nat) : List Nat := (List.range m).map fun j => (f j).toNat
theorem numsOf_len (f : Nat → Int) (m : Nat) : (numsOf f m).length = m := by unfold numsOf; simp
theorem numsOf_get (f : Nat → Int) (m j : Nat) (h : j < (numsOf f m).length) : (numsOf f m)[j] = (f j).toNat := by simp [numsOf]
theorem numsOf_lt {f : Nat → Int} {m : Nat} (h : ∀ j, j < m → 0 ≤ f j ∧ f j < 1073741824) : ∀ x ∈ numsOf f m, x < 4294967296 := fun x hx => by
  unfold numsOf at hx
  obtain ⟨j, hj, rfl⟩ := List.mem_map.1 hx
  have := h j (by simpa using hj)
  omega
/-- The relation of the loop: i numbers are in the buffer. -/
def WsRel (k : Nat) (h : List UInt8) (l : List Nat) (w : World) (nv pv : Value) (wr : World) : Prop := ∃ i : Nat, i ≤ fit 10 l ∧ nv = .int .i64 i ∧ pv = .int .i64 (10 + (enc (l.take i)).length : Nat) ∧
  Hid (∃ r, By wr k 0 (h ++ enc (l.take i) ++ r) ∧ (enc (l.take i)).length + r.length = 16374) ∧ Hid (Kept (In k 10 16374) w wr)
/-- One number more. -/
theorem ws_step {k i : Nat} {h : List UInt8} {l : List Nat} {w : World} (hh : h.length = 10) (hl : ∀ x ∈ l, x < 4294967296) (hi : i < fit 10 l)
    (hB : ∃ r, By w k 0 (h ++ enc (l.take i) ++ r) ∧ (enc (l.take i)).length + r.length = 16374) (hil : i < l.length) :
    ∃ r, By (w.setCells k (10 + (enc (l.take i)).length) (byteCells (uvarint l[i]))) k 0 (h ++ enc (l.take (i + 1)) ++ r) ∧ (enc (l.take (i + 1))).length + r.length = 16374 := by
  obtain ⟨r, h1, h2⟩ := hB
  have hu := uv_le (hl l[i] (List.getElem_mem hil))
  have hs := (fit_step l 10 i (by omega)).2 hi
  have e : h ++ enc (l.take i) ++ r = (h ++ enc (l.take i)) ++ r.take (uvarint l[i]).length ++ r.drop (uvarint l[i]).length := by
    rw [List.append_assoc (h ++ enc (l.take i)), List.take_append_drop]
  rw [e] at h1
  have h3 := h1.mid (l := uvarint l[i]) (by rw [List.length_take]; omega)
  rw [List.length_append, hh, Nat.zero_add] at h3
  refine ⟨r.drop (uvarint l[i]).length, ?_, ?_⟩
  · rw [List.take_succ_eq_append_getElem hil, enc_snoc, ← List.append_assoc]; exact h3
  · rw [List.take_succ_eq_append_getElem hil, enc_snoc, List.length_append, List.length_drop]; omega
def WsPost (b : Nat) (g : Option Nat) (k : Nat) (l0 h : List UInt8) (l : List Nat) (w : World) (e : Ending) (w' : World) : Prop :=
  e = .returned (.tuple #[.int .i64 (fit 10 l : Nat), .nilIface]) ∧ ∃ g', WB b g' (l0 ++ (head h l ++ enc (l.take (fit 10 l)))) w' ∧ (∃ r, By w' k 0 (head h l ++ r) ∧ r.length = 16374) ∧ Kept (OW b g k 16384) w w' ∧ (g' = g ∨ ∃ q, g' = some q ∧ w.heap.size ≤ q)
theorem ws_by {k : Nat} {h r : List UInt8} {l : List Nat} {wr : World} (hh : h.length = 10) (hl : ∀ x ∈ l, x < 4294967296) (hB : By wr k 0 (h ++ enc (l.take (fit 10 l)) ++ r)) :
    By (wr.setCells k 0 (byteCells (uvarint (2 * (10 + (enc (l.take (fit 10 l))).length))))) k 0 (head h l ++ enc (l.take (fit 10 l)) ++ r) := by
  have h1 := fit_size l hl 10 (fit 10 l) (Nat.le_refl _) (by omega)
  have h2 := uv_le (x := 2 * (10 + (enc (l.take (fit 10 l))).length)) (by omega)
  rw [List.append_assoc] at hB ⊢
  exact hB.over (by omega)
theorem ws_end {b k : Nat} {g : Option Nat} {l0 h r : List UInt8} {l : List Nat} {w wr u : World} (hh : h.length = 10) (hl : ∀ x ∈ l, x < 4294967296) (hkb : k ≠ b) (hkg : some k ≠ g) (hB : By wr k 0 (h ++ enc (l.take (fit 10 l)) ++ r)) (hr : (enc (l.take (fit 10 l))).length + r.length = 16374) (hK : Kept (OW b g k 16384) w wr)
    {e : Ending} {nn : Nat} (hu : WrPost b g l0 (head h l ++ enc (l.take (fit 10 l))) nn (wr.setCells k 0 (byteCells (uvarint (2 * (10 + (enc (l.take (fit 10 l))).length))))).drew e u) :
    WsPost b g k l0 h l w (.returned (.tuple #[.int .i64 (fit 10 l : Nat), .nilIface])) u := by
  have h1 := fit_size l hl 10 (fit 10 l) (Nat.le_refl _) (by omega)
  have h2 := uv_le (x := 2 * (10 + (enc (l.take (fit 10 l))).length)) (by omega)
  have hK1 := By.keptSets wr k 0 (uvarint (2 * (10 + (enc (l.take (fit 10 l))).length)))
  have hB1 := ws_by hh hl hB
  have hsz : (wr.setCells k 0 (byteCells (uvarint (2 * (10 + (enc (l.take (fit 10 l))).length))))).heap.size = wr.heap.size := (plain_setCells k _ 0 wr).2.2.2
  obtain ⟨_, g', h3, h4, h5⟩ := hu
  generalize wr.setCells k 0 (byteCells (uvarint (2 * (10 + (enc (l.take (fit 10 l))).length)))) = w1 at *
  have h4' : Kept (OB b g) w1 u := ⟨h4.os, h4.tape, h4.output, h4.size, h4.cell, h4.frozen, h4.block, h4.shape⟩
  refine ⟨rfl, g', h3, ⟨enc (l.take (fit 10 l)) ++ r, ?_, by simp; omega⟩, ?_, ?_⟩
  · rw [← List.append_assoc]
    refine hB1.kept h4' fun j hj hh => ?_
    rcases hh with hh | hh
    · exact hkb hh
    · exact hkg hh
  · refine (hK.trans' hK1 fun x o _ hh => .inr ⟨hh.1, by have := hh.2.2; omega⟩).trans' h4' fun x o _ hh => .inl hh
  · rcases h5 with h5 | ⟨q, h5, h6⟩
    · exact .inl h5
    · exact .inr ⟨q, h5, by have := hK.size; have : w1.heap.size ≤ q := h6; omega⟩
set_option maxHeartbeats 8000000 in
theorem writeSlice_any (b k sb so m sc : Nat) (g : Option Nat) (l0 h r : List UInt8) (f : Nat → Int) (w : World) (hW : WB b g l0 w) (hB : By w k 0 (h ++ r)) (hh : h.length = 10) (hr : r.length = 16374) (hkb : k ≠ b) (hkg : some k ≠ g)
    (hS : Rd .i32 w sb so m f) (hm : 0 < m) (hmb : m ≤ 1073741824) (hf : ∀ j, j < m → 0 ≤ f j ∧ f j < 1073741824) (hsk : sb ≠ k) (hlim : l0.length + 16384 ≤ 140737488355328) :
    Calls Tryd.prog 14 #[wrV b, bufV k, .agg #[.slice (some ⟨sb, so, none⟩) m sc, .slice none 0 0]] w (WsPost b g k l0 h (numsOf f m) w) := by
  have hl := numsOf_lt hf
  have hna := nil_write b
  have hme := meth_write b
  have hkw : k < w.heap.size := Hold.lt hB (by simp; omega)
  have hk1 : Grew w (w.alloc (.cells #[.slice (some ⟨sb, so, none⟩) m sc, .slice none 0 0] 46)) := (Kept.refl _ w).alloc _
  have c0 : (w.alloc (.cells #[.slice (some ⟨sb, so, none⟩) m sc, .slice none 0 0] 46)).cell? ⟨w.heap.size, 0, none⟩ = some (.slice (some ⟨sb, so, none⟩) m sc) := by rw [World.cell?_alloc_new]; rfl
  have c1 : (w.alloc (.cells #[.slice (some ⟨sb, so, none⟩) m sc, .slice none 0 0] 46)).cell? ⟨w.heap.size, 1, none⟩ = some (.slice none 0 0) := by rw [World.cell?_alloc_new]; rfl
  have HB1 := Lib.hid (hB.kept hk1 fun _ _ h => h)
  have HW1 := Lib.hid (hW.kept hk1 (fun _ h => h) (fun _ _ _ h => h))
  have HS1 := Lib.hid (hS.kept hk1 fun _ _ h => h)
  have HK1 := Lib.hid hk1
  have hkx : k ≠ w.heap.size := Nat.ne_of_lt hkw
  have hkw1 : k < (w.alloc (.cells #[.slice (some ⟨sb, so, none⟩) m sc, .slice none 0 0] 46)).heap.size := Nat.lt_of_lt_of_le hkw hk1.size
  have hxw1 : w.heap.size < (w.alloc (.cells #[.slice (some ⟨sb, so, none⟩) m sc, .slice none 0 0] 46)).heap.size := by rw [World.size_alloc]; omega
  have HSB := Lib.hid (hS.lt hm)
  clear hB hW hS hk1
  unfold bufV wrV
  go_enter Tryd.func14, Tryd.ntmps14
  go_wp2_with fail
  generalize w.alloc (.cells #[.slice (some ⟨sb, so, none⟩) m sc, .slice none 0 0] 46) = w1 at *
  generalize w.heap.size = xb at *
  have HLN := Lib.hid (ints_len xb 0 m sc (some ⟨sb, so, none⟩) w1 hmb c0 c1)
  refine HLN.out.mono ?_
  rintro e w2 ⟨rfl, q, rfl⟩
  clear HLN
  go_wp2_with fail
  replace c0 : (w1.drewN q).cell? ⟨xb, 0, none⟩ = some (.slice (some ⟨sb, so, none⟩) m sc) := c0
  replace c1 : (w1.drewN q).cell? ⟨xb, 1, none⟩ = some (.slice none 0 0) := c1
  replace HB1 : Hid (By (w1.drewN q) k 0 (h ++ r)) := HB1
  replace HW1 : Hid (WB b g l0 (w1.drewN q)) := HW1
  replace HS1 : Hid (Rd .i32 (w1.drewN q) sb so m f) := HS1
  replace HK1 := Lib.hid (HK1.out.drewN q)
  replace hkw1 : k < (w1.drewN q).heap.size := hkw1
  replace hxw1 : xb < (w1.drewN q).heap.size := hxw1
  generalize w1.drewN q = w2 at *
  have HLL := Lib.hid hl
  have HF := Lib.hid hf
  have HNL := Lib.hid (numsOf_len f m)
  have HNG := Lib.hid (numsOf_get f m)
  clear hl hf
  generalize numsOf f m = l at *
  go_loopw [6, 8] (fun nv pv wr => WsRel k h l w2 nv pv wr) (fun nv _ _ => m - (RowKit.intOf nv).toNat)
  case atStart => exact ⟨0, Nat.zero_le _, rfl, rfl, ⟨r, by simpa [enc_nil] using HB1.out, by simp [enc_nil]; omega⟩, Kept.refl _ _⟩
  case round =>
    clear HB1
    obtain ⟨i, hi, rfl, rfl, HH, HW⟩ := hrel
    by_cases hlt : i < fit 10 l
    · have hs := (fit_step l 10 i hi).2 hlt
      have him : i < m := by rw [← HNL.out]; exact hs.1
      have hil : i < l.length := hs.1
      have y1 : (i : Int) < (m : Int) := by omega
      have hli : l[i] = (f i).toNat := HNG.out i hil
      obtain ⟨v0, v1⟩ := HF.out i him
      have d0 : wr.cell? ⟨xb, 0, none⟩ = some (.slice (some ⟨sb, so, none⟩) m sc) := (HW.out.cell xb 0 hxw1 fun hh => hkx hh.1.symm).trans c0
      have d3 : wr.cell? ⟨sb, so + i, none⟩ = some (.int .i32 (f i)) := (HS1.out.kept HW.out fun j hj hh => hsk hh.1) i him
      have HGET := Lib.hid (fun u (e0 : u.cell? ⟨xb, 0, none⟩ = some (.slice (some ⟨sb, so, none⟩) m sc)) (e3 : u.cell? ⟨sb, so + i, none⟩ = some (.int .i32 (f i))) => ints_get xb 0 m sc sb so i (f i) u hmb him ⟨v0, by omega⟩ e0 e3)
      have hST := ws_step (w := wr.drew) hh HLL.out hlt HH.out hil
      have hu := uv_le (HLL.out l[i] (List.getElem_mem hil))
      obtain ⟨r0, hB0, hr0⟩ := HH.out
      have HPUT := Lib.hid (fun u (hu0 : ∀ j, u.cell? ⟨k, j, none⟩ = wr.cell? ⟨k, j, none⟩ ∧ u.frozen? ⟨k, j, none⟩ = wr.frozen? ⟨k, j, none⟩) => Tryd.binary_PutUvarint k (10 + (enc (l.take i)).length) (16384 - (10 + (enc (l.take i)).length)) (16384 - (10 + (enc (l.take i)).length)) l[i] (by have := HLL.out l[i] (List.getElem_mem hil); omega) u (by omega) (fun j hj => by
        have := hB0 (10 + (enc (l.take i)).length + j) (by simp; omega)
        rw [Nat.zero_add] at this
        rw [(hu0 _).1, (hu0 _).2, this.1]; exact ⟨rfl, this.2⟩))
      have HST := Lib.hid hST
      have HLN2 : Hid ((enc (l.take (i + 1))).length = (enc (l.take i)).length + (uvarint l[i]).length) := by
        show (enc (l.take (i + 1))).length = _
        rw [List.take_succ_eq_append_getElem hil, enc_snoc, List.length_append]
      have HKN : Hid (Kept (In k 10 16374) w2 (wr.drew.setCells k (10 + (enc (l.take i)).length) (byteCells (uvarint l[i])))) := HW.out.drew.trans' (By.keptSets wr.drew k _ _) fun x o _ hh => ⟨hh.1, by have := hh.2.1; omega, by have := hh.2.2; omega⟩
      clear hST hB0 HH
      have hfi : ((l[i] : Nat) : Int) = f i := by rw [hli]; omega
      have hpb : 10 + (enc (l.take i)).length + 10 ≤ 16384 := hs.2
      rw [hfi] at HPUT
      clear hfi hli hs HLL HF HNG
      generalize hP : 10 + (enc (l.take i)).length = P at *
      generalize uvarint l[i] = uvi at *
      have HP' := Lib.hid hP
      clear hP
      have y2 : (P : Int) + 10 ≤ 16384 := by omega
      have y3 : (P : Int) ≤ 16384 := by omega
      have y4 : ¬ (16384 : Nat) = P := by omega
      have z1 : IntKind.u64.wrap (f i) = f i := by rw [IntKind.wrap_u64]; omega
      have z2 : IntKind.i64.wrap ((P : Int) + (uvi.length : Int)) = (P : Int) + (uvi.length : Int) := by rw [IntKind.wrap_i64]; omega
      generalize f i = fi at *
      go_wp2_with fail
      go_region_with (first
        | (go_at_call 24; refine (HGET.out _ ?_ ?_).mono ?_; exact d0; exact d3; rintro e w3 ⟨rfl, rfl⟩)
        | (go_at_call 23; refine (HPUT.out _ ?_).mono ?_; exact fun j => ⟨rfl, rfl⟩; rintro e w4 ⟨rfl, rfl⟩))
      all_goals (
        go_simp
        go_wp2
        go_roundw
        case rel => exact ⟨i + 1, by omega, by go_num, by rw [HLN2.out, ← HP'.out]; congr 1; omega, HST, HKN⟩
        case measure => simp [RowKit.intOf]; omega)
    · obtain rfl : fit 10 l = i := by omega
      have hnot : ¬ (fit 10 l < m ∧ 10 + (enc (l.take (fit 10 l))).length + 10 ≤ 16384) := fun hc => hlt ((fit_step l 10 (fit 10 l) (Nat.le_refl _)).1 ⟨by rw [HNL.out]; exact hc.1, hc.2⟩)
      obtain ⟨r0, hB0, hr0⟩ := HH.out
      have hfl : fit 10 l ≤ m := by have := fit_le l 10; rw [HNL.out] at this; exact this
      have HWr := HW1.out.kept HW.out (fun o hq => hkb hq.1.symm) (fun q hq o hx => hkg (by rw [hq, hx.1]))
      have hKr : Kept (OW b g k 16384) w wr := (HK1.out.mono fun _ _ _ hq => hq.elim).trans' HW.out fun x o hx hq => .inr ⟨hq.1, by have := hq.2.2; omega⟩
      have h1 := fit_size l HLL.out 10 (fit 10 l) (Nat.le_refl _) (by omega)
      have HE := Lib.hid (fun u e nn => ws_end (b := b) (k := k) (g := g) (l0 := l0) (h := h) (r := r0) (l := l) (w := w) (wr := wr) (u := u) (e := e) (nn := nn) hh HLL.out hkb hkg hB0 hr0 hKr)
      have hB1 := ws_by hh HLL.out hB0
      have hW1 : WB b g l0 (wr.setCells k 0 (byteCells (uvarint (2 * (10 + (enc (l.take (fit 10 l))).length))))) := HWr.kept (By.keptSets wr k 0 _) (fun o hh => hkb hh.1.symm) (fun q hq o hh => hkg (by rw [hq, hh.1]))
      have hhd : (head h l).length = 10 := head_len l hh HLL.out
      have HC := buffer_Write b g l0 (head h l ++ enc (l.take (fit 10 l))) (.slice (some ⟨k, 0, none⟩) (10 + (enc (l.take (fit 10 l))).length) 16384) (wr.setCells k 0 (byteCells (uvarint (2 * (10 + (enc (l.take (fit 10 l))).length))))).drew hW1 (.inr ⟨k, 0, 16384, by rw [List.length_append, hhd], hkb, hB1.left.br⟩) (by rw [List.length_append, hhd]; omega)
      rw [List.length_append, hhd] at HC
      have hu := uv_le (x := 2 * (10 + (enc (l.take (fit 10 l))).length)) (by omega)
      have hzz : zigzag ((10 + (enc (l.take (fit 10 l))).length : Nat) : Int) = 2 * (10 + (enc (l.take (fit 10 l))).length) := zz _
      have HP := Tryd.binary_PutVarint k 0 16384 16384 ((10 + (enc (l.take (fit 10 l))).length : Nat) : Int) (by omega) (by omega) wr (by rw [hzz]; omega) (fun j hj => by
        rw [hzz] at hj
        have := hB0 j (by simp; omega)
        rw [this.1]; exact ⟨rfl, this.2⟩)
      rw [hzz] at HP
      replace HP := Lib.hid HP
      replace HC := Lib.hid HC
      clear hzz hu hhd hW1 hB1 hKr HWr hB0 hr0 HH HW
      generalize hP : 10 + (enc (l.take (fit 10 l))).length = P at *
      clear hP
      generalize fit 10 l = K at *
      generalize head h l ++ enc (l.take K) = hd at *
      generalize uvarint (2 * P) = ub at *
      have y3 : (P : Int) ≤ 16384 := by omega
      have y4 : (P : Int) < 16384 + 1 := by omega
      rcases Nat.lt_or_ge K m with hKm | hKm
      · have y1 : (K : Int) < (m : Int) := by omega
        have y2 : ¬ (P : Int) + 10 ≤ 16384 := by omega
        clear hnot hlt
        go_wp2_with fail
        refine HP.out.mono ?_
        rintro e w3 ⟨rfl, rfl⟩
        clear HP
        generalize wr.setCells k 0 (byteCells ub) = w3 at *
        go_wp2_with fail
        go_region_with (
          go_at_call 109
          refine HC.out.mono ?_
          rintro e w4 hpo
          have HX := Lib.hid (HE.out w4 _ _ hpo)
          obtain ⟨rfl, _⟩ := hpo
          clear HE HC)
        all_goals (
          go_simp
          go_wp2
          go_ret2
          exact HX.out)
      · have y1 : ¬ (K : Int) < (m : Int) := by omega
        clear hnot hlt
        go_wp2_with fail
        refine HP.out.mono ?_
        rintro e w3 ⟨rfl, rfl⟩
        clear HP
        generalize wr.setCells k 0 (byteCells ub) = w3 at *
        go_wp2_with fail
        go_region_with (
          go_at_call 109
          refine HC.out.mono ?_
          rintro e w4 hpo
          have HX := Lib.hid (HE.out w4 _ _ hpo)
          obtain ⟨rfl, _⟩ := hpo
          clear HE HC)
        all_goals (
          go_simp
          go_wp2
          go_ret2
          exact HX.out)
end Go.Proofs.YtoebcbmkkhbldaaDoor
