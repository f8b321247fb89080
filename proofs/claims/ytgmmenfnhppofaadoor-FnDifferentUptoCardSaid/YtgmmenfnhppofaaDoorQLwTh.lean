/- FnThrough. -/
import Derived.Test.YtgmmenfnhppofaaDoorQLwSp
set_option linter.unusedVariables false
namespace Go.Proofs.YtgmmenfnhppofaaDoor
open Go.RowKit Go.Mem Sais
set_option maxRecDepth 100000

theorem Tryd.infoBool : (Tryd.prog.info? 4).map (fun i => (i.zero, i.size, i.bytes)) = some (some (.bool false), 1, 1) := by kernel_rfl
theorem Tryd.makeBool (u : World) (n : Nat) (hn : n ≤ 1073741824) : (Instr.makeSlice 35 (.int .i64 (n : Int)) (.int .i64 (n : Int))).run Tryd.prog u =
    .ok (.slice (some ⟨u.heap.size, 0, none⟩) n n) (u.alloc (.cells (madeCells #[.bool false] n) 4)) := by
  obtain ⟨i0, hi, hz0, hz1, hz2⟩ := info_parts Tryd.infoBool
  have h := run_make (P := Tryd.prog) u 35 4 i0 (.bool false) Tryd.underlying35 hi hz0 .i64 .i64 (n : Int) (n : Int) (by omega) (Int.le_refl _) (by rw [hz2]; omega) (by omega)
  simpa [hz1, Value.cells] using h
/-- n bools at the head of block b. -/
def BH (w : World) (b n : Nat) (F : Nat → Bool) : Prop := ∀ j, j < n → w.cell? ⟨b, j, none⟩ = some (.bool (F j)) ∧ w.frozen? ⟨b, j, none⟩ = false
theorem BH.made (w : World) (t : TypeId) (n : Nat) : BH (w.alloc (.cells (madeCells #[.bool false] n) t)) w.heap.size n (fun _ => false) := fun j hj => by
  refine ⟨?_, World.frozen?_alloc_new _ _ _ _⟩
  rw [World.cell?_alloc_new, ← Array.getElem?_toList, toList_madeCells_one, List.getElem?_replicate, if_pos hj]
theorem BH.grew {w w' : World} {b n : Nat} {F : Nat → Bool} (h : BH w b n F) (hk : Grew w w') : BH w' b n F := fun j hj => by
  have hb := World.block_lt_of_cell? w _ (h j hj).1
  exact ⟨(hk.cell b j hb fun h => h).trans (h j hj).1, (hk.frozen b j hb).trans (h j hj).2⟩
theorem BH.congr {w : World} {b n : Nat} {F G : Nat → Bool} (h : BH w b n F) (e : ∀ j, j < n → F j = G j) : BH w b n G := fun j hj => by rw [← e j hj]; exact h j hj
theorem BH.set {w : World} {b n i : Nat} {F : Nat → Bool} (h : BH w b n F) (hi : i < n) (x : Bool) : BH (w.setCell ⟨b, i, none⟩ (.bool x)) b n (fun j => if j = i then x else F j) := fun j hj => by
  refine ⟨?_, ?_⟩
  · by_cases e : j = i
    · subst e
      have h1 := (h j hj).1
      simp only [if_true]
      exact World.cell?_setCell_same _ _ _ h1
    · simp only [if_neg e]
      rw [World.cell?_setCell_other w _ _ _ (fun h' => e (by injection h' with _ h2 _; exact h2.symm))]; exact (h j hj).1
  · rw [World.frozen?_setCell]; exact (h j hj).2
/-- The cells of those bools. -/
def InB (fb n : Nat) : Nat → Nat → Prop := fun b o => b = fb ∧ o < n
theorem notB {w : World} {fb n b o : Nat} {F : Nat → Bool} {k : IntKind} {x : Int} (h : BH w fb n F) (hc : w.cell? ⟨b, o, none⟩ = some (.int k x)) : ¬ InB fb n b o := by
  rintro ⟨rfl, ho⟩
  rw [(h o ho).1] at hc; cases hc
/-- The relation of the first loop. -/
def ThRel (l : List Int) (fb n : Nat) (w2 : World) (iv : Value) (wr : World) : Prop := ∃ k : Nat, k ≤ l.length ∧ iv = .int .i64 k ∧ Hid (BH wr fb n (fun j => decide ((j : Int) ∈ l.take k))) ∧ Hid (Kept (InB fb n) w2 wr)
theorem mem_take_succ {l : List Int} {k : Nat} (h : k < l.length) (x : Int) : x ∈ l.take (k + 1) ↔ x ∈ l.take k ∨ x = l[k] := by
  rw [List.take_succ_eq_append_getElem h, List.mem_append, List.mem_singleton]
theorem lookup_lt {s t : ByteArray} {l : List Int} (h : l.Perm (ints (places s t))) : ∀ x ∈ l, 0 ≤ x ∧ x < s.size := fun x hx => by
  have := mem_ints.1 (h.mem_iff.1 hx)
  have h2 := mem_places.1 this.2
  have h3 := h2.2.1
  omega
theorem through_mem {a b c : ByteArray} {l1 l2 l3 : List Int} (h1 : l1.Perm (ints (places c a))) (h2 : l2.Perm (ints (places b a))) (h3 : l3.Perm (ints (places c b))) {x y : Int} (hx : x ∈ l2) (hy : y ∈ l3) : x + y ∈ l1 := by
  have e2 := mem_ints.1 (h2.mem_iff.1 hx)
  have e3 := mem_ints.1 (h3.mem_iff.1 hy)
  rw [h1.mem_iff, mem_ints]
  refine ⟨by omega, ?_⟩
  rw [show (x + y).toNat = x.toNat + y.toNat by omega]
  exact through_law e2.2 e3.2
set_option maxHeartbeats 8000000 in
theorem fnThrough_any (a b c : ByteArray) (w : World) (ha : a.size ≤ 1073741824) (hb : b.size ≤ 1073741824) (hc : c.size ≤ 1073741824) (hmax : MaxIs w) :
    Calls Tryd.prog 9 #[.string a, .string b, .string c] w (GB true w) := by
  have hmk := Tryd.makeBool w c.size hc
  have HKA := Lib.hid ((Kept.refl _ w : Grew w w).alloc (.cells (madeCells #[.bool false] c.size) 4))
  have HBA := Lib.hid (BH.made w 4 c.size)
  have HC1 := Lib.hid (lookup_any c a (w.alloc (.cells (madeCells #[.bool false] c.size) 4)) hc ha (hmax.grew HKA.out))
  have HM := Lib.hid hmax
  clear hmax
  go_enter Tryd.func9, Tryd.ntmps9
  go_wp2_with fail
  generalize hwA : w.alloc (.cells (madeCells #[.bool false] c.size) 4) = wA at *
  clear hwA hmk
  obtain ⟨fb, hfb⟩ : ∃ fb, w.heap.size = fb := ⟨_, rfl⟩
  rw [hfb] at HBA
  rw [hfb]
  have HFB := Lib.hid hfb
  clear hfb
  refine HC1.out.mono ?_
  rintro e w2 ⟨l1, v1, rfl, i1, hp1, k1⟩
  obtain ⟨a1, c1, rfl⟩ := i1.shape
  have HI1 := Lib.hid i1; have HP1 := Lib.hid hp1; have HK1 := Lib.hid (HKA.out.trans k1)
  have HB1 := Lib.hid (HBA.out.grew k1)
  have HX1 := Lib.hid (lookup_lt hp1)
  have hl1 : l1.length ≤ 1073741824 := by rw [lookup_len hp1]; exact places_big hc
  clear HC1 i1 hp1 k1 HKA HBA
  go_wp2_with fail
  go_loopw [22, 9] (fun i _ wr => ThRel l1 fb c.size w2 i wr) (fun i _ _ => l1.length - (intOf i).toNat)
  case atStart => exact ⟨0, by omega, rfl, HB1.out.congr fun j _ => by simp, Kept.refl _ _⟩
  case round =>
    obtain ⟨k, hk, rfl, HB, HW⟩ := hrel
    by_cases hlt : k < l1.length
    · obtain ⟨bb, o, cc, e, _, hcell⟩ := HI1.out.cells (by omega)
      injection e with ea en ec
      subst ea ec
      have hck := hcell k hlt
      have c1 : wr.cell? ⟨bb, o + k, none⟩ = some (.int .i64 l1[k]) := (HW.out.cell _ _ (World.block_lt_of_cell? w2 _ hck) (notB HB1.out hck)).trans hck
      have y1 : (k : Int) < (l1.length : Int) := by omega
      obtain ⟨x0, x1⟩ := HX1.out l1[k] (List.getElem_mem hlt)
      obtain ⟨x, hx⟩ : ∃ x : Nat, l1[k] = (x : Int) := ⟨l1[k].toNat, by omega⟩
      have HB' : Hid (BH (wr.setCell ⟨fb, x, none⟩ (.bool true)) fb c.size (fun j => decide ((j : Int) ∈ l1.take (k + 1)))) := (HB.out.set (by omega) true).congr fun j hj => by
        rw [Bool.eq_iff_iff, decide_eq_true_eq, mem_take_succ hlt, hx]
        by_cases e : j = x
        · subst e; simp
        · have : ¬ (j : Int) = (x : Int) := by omega
          simp [e, this]
      have HW' : Hid (Kept (InB fb c.size) w2 (wr.setCell ⟨fb, x, none⟩ (.bool true))) := HW.out.set _ ⟨rfl, by omega⟩
      obtain ⟨cf, ff⟩ := HB.out x (by omega)
      rw [hx] at c1 x0 x1
      clear hcell hck HX1 HP1 HI1 HB HW hx HB1
      have x2 : (x : Int) < (c.size : Int) := x1
      generalize decide ((x : Int) ∈ l1.take k) = old at *
      go_wp2
      go_roundw
      case rel => exact ⟨k + 1, by omega, by go_num, HB', HW'⟩
      case measure => simp [intOf]; omega
    · obtain rfl : k = l1.length := by omega
      have hBe := HB.out
      rw [List.take_length] at hBe
      have HBe := Lib.hid hBe
      have HKr : Hid (Grew w wr) := HK1.out.trans' HW.out fun x o hx hh => by have h1 := hh.1; have h2 := HFB.out; omega
      have HC2 := Lib.hid (lookup_any b a wr hb ha (HM.out.grew HKr.out))
      clear HB hBe HX1 HI1 HB1 HW HK1
      go_wp2_with fail
      refine HC2.out.mono ?_
      rintro e w3 ⟨l2, v2, rfl, i2, hp2, k2⟩
      obtain ⟨a2, c2, rfl⟩ := i2.shape
      have HK2 := Lib.hid (HKr.out.trans k2)
      have HB2 := Lib.hid (HBe.out.grew k2)
      have HI2 := Lib.hid i2; have HP2 := Lib.hid hp2
      have HC4 := Lib.hid (lookup_any c b w3 hc hb (HM.out.grew HK2.out))
      have hl2 : l2.length ≤ 1073741824 := by rw [lookup_len hp2]; exact places_big hb
      clear HC2 i2 hp2 k2 HKr HBe
      go_wp2_with fail
      refine HC4.out.mono ?_
      rintro e w4 ⟨l3, v3, rfl, i3, hp3, k3⟩
      obtain ⟨a3, c3, rfl⟩ := i3.shape
      have HK3 := Lib.hid (HK2.out.trans k3)
      have HB3 := Lib.hid (HB2.out.grew k3)
      have HI3 := Lib.hid i3; have HI2' := Lib.hid (HI2.out.grew k3)
      have HT := Lib.hid (fun x y (hx : x ∈ l2) (hy : y ∈ l3) => through_mem HP1.out HP2.out hp3 hx hy)
      have HX2 := Lib.hid (lookup_lt HP2.out)
      have HX3 := Lib.hid (lookup_lt hp3)
      have HX1 := Lib.hid (lookup_lt HP1.out)
      have hl3 : l3.length ≤ 1073741824 := by rw [lookup_len hp3]; exact places_big hc
      have HA := Lib.hid (awake_any w4 (HM.out.grew HK3.out))
      clear HC4 i3 hp3 k3 HK2 HB2 HI2 HP1 HP2 HM
      go_wp2_with fail
      go_loop [45, 12] (fun i _ => ∃ k : Nat, k ≤ l3.length ∧ i = .int .i64 k) (fun i _ => l3.length - (intOf i).toNat)
      case atStart => exact ⟨0, by omega, rfl⟩
      case round =>
        obtain ⟨k, hk, rfl⟩ := hrel
        by_cases hlt : k < l3.length
        · obtain ⟨bb, o, cc, e, _, hcell⟩ := HI3.out.cells (by omega)
          injection e with ea en ec
          subst ea ec
          have cy : w4.cell? ⟨bb, o + k, none⟩ = some (.int .i64 l3[k]) := hcell k hlt
          have y1 : (k : Int) < (l3.length : Int) := by omega
          obtain ⟨y0, yb⟩ := HX3.out l3[k] (List.getElem_mem hlt)
          have HT' := Lib.hid (fun x hx => HT.out x l3[k] hx (List.getElem_mem hlt))
          clear hcell HT HX3 HA
          generalize l3[k] = y at *
          go_wp2_with fail
          go_loop [51, 14] (fun i _ => ∃ k : Nat, k ≤ l2.length ∧ i = .int .i64 k) (fun i _ => l2.length - (intOf i).toNat)
          case atStart => exact ⟨0, by omega, rfl⟩
          case round =>
            obtain ⟨k2, hk2, rfl⟩ := hrel
            by_cases hlt2 : k2 < l2.length
            · obtain ⟨b2, o2, cc2, e, _, hcell⟩ := HI2'.out.cells (by omega)
              injection e with ea en ec
              subst ea ec
              have cx : w4.cell? ⟨b2, o2 + k2, none⟩ = some (.int .i64 l2[k2]) := hcell k2 hlt2
              have y2 : (k2 : Int) < (l2.length : Int) := by omega
              obtain ⟨x0, xb⟩ := HX2.out l2[k2] (List.getElem_mem hlt2)
              have hm := HT'.out l2[k2] (List.getElem_mem hlt2)
              obtain ⟨z0, zb⟩ := HX1.out _ hm
              clear hcell HX2 HT'
              generalize l2[k2] = x at *
              obtain ⟨z, hz⟩ : ∃ z : Nat, x + y = (z : Int) := ⟨(x + y).toNat, by omega⟩
              have cz : w4.cell? ⟨fb, z, none⟩ = some (.bool (decide ((z : Int) ∈ l1))) := (HB3.out z (by omega)).1
              rw [← hz, decide_eq_true hm] at cz
              have q1 : (x + y).toNat = z := by omega
              have q2 : (z : Int) < (c.size : Int) := by omega
              clear hm HX1 HB3
              go_wp2
              go_round
              case rel => exact ⟨k2 + 1, by omega, by go_num⟩
              case measure => simp [intOf]; omega
            · obtain rfl : k2 = l2.length := by omega
              go_wp2
              go_round
              case rel => exact ⟨k + 1, by omega, by go_num⟩
              case measure => simp [intOf]; omega
        · obtain rfl : k = l3.length := by omega
          go_wp2_with fail
          refine HA.out.mono ?_
          rintro e w5 ⟨rfl, k5⟩
          go_wp2
          go_ret
          exact ⟨rfl, HK3.out.trans k5⟩
end Go.Proofs.YtgmmenfnhppofaaDoor
