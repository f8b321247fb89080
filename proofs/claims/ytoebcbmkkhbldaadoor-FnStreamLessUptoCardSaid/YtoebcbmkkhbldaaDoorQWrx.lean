/- (*Index).Write. -/
import Derived.Test.YtoebcbmkkhbldaaDoorQWrs
set_option linter.unusedVariables false
namespace Go.Proofs.YtoebcbmkkhbldaaDoor
open Go.RowKit Go.Mem Sais Go.Lib Go.Wire
set_option maxRecDepth 100000

theorem bts_len (T : Nat → Nat) (n : Nat) : (bts T n).length = n := by simp [bts]
theorem bf_bts {T : Nat → Nat} {n : Nat} (hT : ∀ i, i < n → T i < 256) {j : Nat} (hj : j < n) : bf (bts T n) j = (T j : Int) := by
  rw [bf_get (by rw [bts_len]; exact hj)]
  have := hT j hj
  simp [bts, Nat.mod_eq_of_lt this]
theorem br_bts {T : Nat → Nat} {n b o : Nat} {w : World} (hT : ∀ i, i < n → T i < 256) (h : Rd .u8 w b o n (fun i => (T i : Int))) : Br w b o (bts T n) := fun j hj => by
  rw [bts_len] at hj
  rw [bf_bts hT hj]; exact h j hj
theorem Tryd.infoU8b : (Tryd.prog.info? 5).map (fun i => (i.zero, i.size, i.bytes)) = some (some (.int .u8 0), 1, 1) := by kernel_rfl
theorem Tryd.makeU8 (u : World) (n : Nat) (hn : n ≤ 1073741824) : (Instr.makeSlice 28 (.int .i64 (n : Int)) (.int .i64 (n : Int))).run Tryd.prog u =
    .ok (.slice (some ⟨u.heap.size, 0, none⟩) n n) (u.alloc (.cells (madeCells #[.int .u8 0] n) 5)) := by
  obtain ⟨i0, hi, hz0, hz1, hz2⟩ := info_parts Tryd.infoU8b
  have h := run_make (P := Tryd.prog) u 28 5 i0 (.int .u8 0) Tryd.underlying28 hi hz0 .i64 .i64 (n : Int) (n : Int) (by omega) (Int.le_refl _) (by rw [hz2]; omega) (by omega)
  simpa [hz1, Value.cells] using h
theorem bf_zero (n j : Nat) : bf (List.replicate n 0) j = 0 := by
  unfold bf
  by_cases h : j < n <;> simp [h]
theorem By.made (w : World) (n : Nat) : By (w.alloc (.cells (madeCells #[.int .u8 0] n) 5)) w.heap.size 0 (List.replicate n 0) := fun j hj => by
  rw [List.length_replicate] at hj
  rw [bf_zero]
  exact Hold.made .u8 w 5 n j hj
theorem By.made2 (w : World) (n m : Nat) : By (w.alloc (.cells (madeCells #[.int .u8 0] (n + m)) 5)) w.heap.size 0 (List.replicate n 0 ++ List.replicate m 0) := by
  rw [List.replicate_append_replicate]; exact By.made w (n + m)
/-- sa.slice(i, sa.len()) -/
theorem ints_slice_tail (xb o n sc sb so i : Nat) (w : World) (hn : n ≤ 1073741824) (hi : i ≤ n) (hsc : n ≤ sc) (c1 : w.cell? ⟨xb, o, none⟩ = some (.slice (some ⟨sb, so, none⟩) n sc)) :
    ∃ so', (i < n → so' = so + i) ∧ Calls Tryd.prog 15 #[.pointer (some ⟨xb, o, none⟩), .int .i64 i, .int .i64 n] w (IPost (.agg #[.slice (some ⟨sb, so', none⟩) (n - i) (sc - i), .slice none 0 0]) w) := by
  by_cases h : i < sc
  · exact ⟨so + i, fun _ => rfl, ints_slice_in xb o n sc sb so i n w hn hi (Nat.le_refl _) hsc h c1⟩
  · obtain rfl : i = n := by omega
    obtain rfl : sc = i := by omega
    refine ⟨so, fun h => by omega, ?_⟩
    rw [Nat.sub_self]
    exact ints_slice_end xb o sc sb so w hn c1
/-- A block that is no part of a buffer. -/
def Off (b : Nat) (g : Option Nat) (x : Nat) : Prop := x ≠ b ∧ some x ≠ g
theorem Off.out {b x o : Nat} {g : Option Nat} (h : Off b g x) : ¬ OB b g x o := fun hh => hh.elim h.1 h.2
theorem Off.new {b x : Nat} {g g' : Option Nat} {w : World} (h : Off b g x) (hx : x < w.heap.size) (hg : g' = g ∨ ∃ q, g' = some q ∧ w.heap.size ≤ q) : Off b g' x := by
  refine ⟨h.1, fun e => ?_⟩
  rcases hg with hg | ⟨q, hg, hq⟩
  · exact h.2 (e.trans hg)
  · rw [hg] at e; have := Option.some.inj e; omega
def IwPost (b : Nat) (g : Option Nat) (l : List UInt8) (w : World) (e : Ending) (w' : World) : Prop :=
  e = .returned .nilIface ∧ ∃ g', WB b g' l w' ∧ Kept (OB b g) w w' ∧ (g' = g ∨ ∃ q, g' = some q ∧ w.heap.size ≤ q)
/-- The relation of the loop: i numbers are written. -/
def IwRel (b : Nat) (g : Option Nat) (l0 : List UInt8) (T : List UInt8) (l : List Nat) (k ab sb so sc : Nat) (w : World) (wr : World) : Prop := ∃ (i so' : Nat) (g' : Option Nat) (d h r : List UInt8), i ≤ l.length ∧ Hid (i < l.length → so' = so + i) ∧
  wr.cell? ⟨ab, 0, none⟩ = some (.slice (some ⟨sb, so', none⟩) (l.length - i) (sc - i)) ∧ wr.cell? ⟨ab, 1, none⟩ = some (.slice none 0 0) ∧ wr.frozen? ⟨ab, 0, none⟩ = false ∧ wr.frozen? ⟨ab, 1, none⟩ = false ∧
  Hid (WB b g' (l0 ++ d) wr) ∧ Hid (d ++ chunks h (l.drop i) = wire T l) ∧ Hid (By wr k 0 (h ++ r)) ∧ Hid (h.length = 10 ∧ r.length = 16374) ∧ Hid (Kept (OB b g) w wr) ∧ Hid ((g' = g ∨ ∃ q, g' = some q ∧ w.heap.size ≤ q) ∧ Off b g' k ∧ Off b g' ab ∧ (i < l.length → Off b g' sb))
/-- Behind the writing of the data. -/
def IwMid (b : Nat) (g : Option Nat) (l : List UInt8) (h : List UInt8) (k : Nat) (w wx : World) : Prop :=
  ∃ g' r, WB b g' l wx ∧ By wx k 0 (h ++ r) ∧ r.length = 16374 ∧ Kept (OB b g) w wx ∧ (g' = g ∨ ∃ q, g' = some q ∧ w.heap.size ≤ q) ∧ Off b g' k
theorem srcV_of {b n tb tx tc : Nat} {T : Nat → Nat} {w : World} {dv : Value} (hT : ∀ i, i < n → T i < 256) (h : TextV T n w dv tb tx tc) (ht : 0 < n → tb ≠ b) : SrcV b (bts T n) w dv := by
  rcases h with ⟨rfl, a, c, e⟩ | ⟨e, _, h3⟩
  · exact .inl ⟨rfl, a, c, e⟩
  · by_cases h0 : n = 0
    · subst h0; exact .inl ⟨rfl, _, _, e⟩
    · exact .inr ⟨tb, tx, tc, by rw [bts_len]; exact e, ht (by omega), br_bts hT h3⟩
theorem Kept.wasOB {b k : Nat} {g g' : Option Nat} {w w1 w2 : World} {m : Nat} (h : Kept (OB b g) w w1) (h2 : Kept (OW b g' k m) w1 w2) (hg : g' = g ∨ ∃ q, g' = some q ∧ w.heap.size ≤ q) (hk : w.heap.size ≤ k) : Kept (OB b g) w w2 :=
  h.trans' h2 fun x o hx hh => by
    rcases hh with (hh | hh) | hh
    · exact .inl hh
    · rcases hg with hg | ⟨q, hg, hq⟩
      · exact .inr (hh.trans hg)
      · rw [hg] at hh; have := Option.some.inj hh; omega
    · have := hh.1; omega
theorem Kept.wasOB2 {b : Nat} {g g' : Option Nat} {w w1 w2 : World} (h : Kept (OB b g) w w1) (h2 : Kept (OB b g') w1 w2) (hg : g' = g ∨ ∃ q, g' = some q ∧ w.heap.size ≤ q) : Kept (OB b g) w w2 :=
  h.trans' h2 fun x o hx hh => by
    rcases hh with hh | hh
    · exact .inl hh
    · rcases hg with hg | ⟨q, hg, hq⟩
      · exact .inr (hh.trans hg)
      · rw [hg] at hh; have := Option.some.inj hh; omega
theorem newG {g g' g'' : Option Nat} {n m : Nat} (h : g' = g ∨ ∃ q, g' = some q ∧ n ≤ q) (h2 : g'' = g' ∨ ∃ q, g'' = some q ∧ m ≤ q) (hm : n ≤ m) : g'' = g ∨ ∃ q, g'' = some q ∧ n ≤ q := by
  rcases h2 with h2 | ⟨q, h2, h3⟩
  · rw [h2]; exact h
  · exact .inr ⟨q, h2, by omega⟩
def lenAt (w : World) (a : Addr) : Nat := match w.cell? a with
  | some (.slice _ m _) => m
  | _ => 0
theorem lenAt_eq {w : World} {a : Addr} {p : Option Addr} {m c : Nat} (h : w.cell? a = some (.slice p m c)) : lenAt w a = m := by unfold lenAt; rw [h]
theorem IwRel.len {b k ab sb so sc : Nat} {g : Option Nat} {l0 T : List UInt8} {l : List Nat} {w wr : World} (h : IwRel b g l0 T l k ab sb so sc w wr) : lenAt wr ⟨ab, 0, none⟩ ≤ l.length := by
  obtain ⟨i, so', g', d, h, r, h1, h2, h3, _⟩ := h
  rw [lenAt_eq h3]; omega
theorem numsOf_drop (f : Nat → Int) (n i : Nat) : (numsOf f n).drop i = numsOf (fun j => f (i + j)) (n - i) := by
  apply List.ext_getElem
  · simp [numsOf]
  · intro j h1 h2
    simp [numsOf]
theorem iw_step {b k ab sb so sc i so' so'' : Nat} {g g' : Option Nat} {l0 T d h : List UInt8} {l : List Nat} {w wr w4 w5 : World} {e : Ending} (hi : i < l.length) (hd : d ++ chunks h (l.drop i) = wire T l) (hh : h.length = 10) (hl : ∀ x ∈ l, x < 4294967296)
    (hK : Kept (OB b g) w wr) (hg : g' = g ∨ ∃ q, g' = some q ∧ w.heap.size ≤ q) (hok : Off b g' k) (hoa : Off b g' ab) (hos : Off b g' sb) (hka : ab ≠ k) (hkw : w.heap.size ≤ k) (haw : w.heap.size ≤ ab) (hka2 : k < wr.heap.size) (hsb : sb < wr.heap.size)
    (c0 : (wr.cell? ⟨ab, 0, none⟩).isSome) (c1 : (wr.cell? ⟨ab, 1, none⟩).isSome) (f0 : wr.frozen? ⟨ab, 0, none⟩ = false) (f1 : wr.frozen? ⟨ab, 1, none⟩ = false) (hp : WsPost b g' k (l0 ++ d) h (l.drop i) wr e w4)
    (hso1 : so' = so + i) (hso : fit 10 (l.drop i) < l.length - i → so'' = so' + fit 10 (l.drop i)) (h5 : Grew w4 w5) :
    IwRel b g l0 T l k ab sb so sc w ((w5.setCell ⟨ab, 0, none⟩ (.slice (some ⟨sb, so'', none⟩) (l.length - i - fit 10 (l.drop i)) (sc - i - fit 10 (l.drop i)))).setCell ⟨ab, 1, none⟩ (.slice none 0 0)) := by
  obtain ⟨_, g'', hW, ⟨r, hB, hr⟩, hK4, hg4⟩ := hp
  have hne : l.drop i ≠ [] := by intro h; have := congrArg List.length h; simp at this; omega
  have hf := fit_le (l.drop i) 10
  rw [List.length_drop] at hf
  have haw4 : ab < wr.heap.size := by
    obtain ⟨v, hv⟩ := Option.isSome_iff_exists.1 c0
    exact World.block_lt_of_cell? wr _ hv
  have hK45 := hK4.trans' h5 fun _ _ _ h => h.elim
  have hnS : ∀ o, ¬ OW b g' k 16384 ab o := fun o hh => by
    rcases hh with hh | hh
    · exact hoa.out (o := 0) hh
    · exact hka hh.1
  have e0 : (w5.cell? ⟨ab, 0, none⟩).isSome := by rw [hK45.cell ab 0 haw4 (hnS 0)]; exact c0
  have e1 : (w5.cell? ⟨ab, 1, none⟩).isSome := by rw [hK45.cell ab 1 haw4 (hnS 1)]; exact c1
  obtain ⟨v0, e0⟩ := Option.isSome_iff_exists.1 e0
  obtain ⟨v1, e1⟩ := Option.isSome_iff_exists.1 e1
  have hK6 : Kept (fun x _ => x = ab) w5 ((w5.setCell ⟨ab, 0, none⟩ (.slice (some ⟨sb, so'', none⟩) (l.length - i - fit 10 (l.drop i)) (sc - i - fit 10 (l.drop i)))).setCell ⟨ab, 1, none⟩ (.slice none 0 0)) := ((Kept.refl (fun x _ => x = ab) w5).set _ rfl).set _ rfl
  have hoa' : Off b g'' ab := hoa.new haw4 hg4
  have hok' : Off b g'' k := hok.new hka2 hg4
  have hos' : Off b g'' sb := hos.new hsb hg4
  refine ⟨i + fit 10 (l.drop i), so'', g'', d ++ (head h (l.drop i) ++ enc ((l.drop i).take (fit 10 (l.drop i)))), head h (l.drop i), r, by omega, (fun hlt => by rw [hso (by omega), hso1]; omega), ?_, ?_, ?_, ?_, ?_, ?_, ?_, ⟨head_len _ hh fun x hx => hl x (List.mem_of_mem_drop hx), hr⟩, ?_, newG hg hg4 hK.size, hok', hoa', fun _ => hos'⟩
  · rw [World.cell?_setCell_other _ _ _ _ (by simp), World.cell?_setCell_same _ _ _ e0, ← Nat.sub_sub, ← Nat.sub_sub]
  · rw [World.cell?_setCell_same _ _ _ (u := v1)]
    rw [World.cell?_setCell_other _ _ _ _ (by simp)]; exact e1
  · rw [World.frozen?_setCell, World.frozen?_setCell, hK45.frozen ab 0 haw4]; exact f0
  · rw [World.frozen?_setCell, World.frozen?_setCell, hK45.frozen ab 1 haw4]; exact f1
  · show WB _ _ _ _
    rw [← List.append_assoc]
    exact (hW.kept h5 (fun _ h => h) (fun _ _ _ h => h)).kept hK6 (fun o hh => hoa'.1 hh.symm) (fun q hq o hh => hoa'.2 (by rw [hq, hh]))
  · show d ++ (head h (l.drop i) ++ enc ((l.drop i).take (fit 10 (l.drop i)))) ++ chunks (head h (l.drop i)) (l.drop (i + fit 10 (l.drop i))) = wire T l
    rw [← hd, chunks_more h hne, List.drop_drop, List.append_assoc]
  · exact (hB.kept h5 fun _ _ h => h).kept hK6 fun j _ hh => hka hh.symm
  · exact (Kept.wasOB hK hK4 hg hkw |>.trans' h5 fun _ _ _ h => h.elim).trans' hK6 fun x o hx hh => by omega
theorem iw_end {b i : Nat} {g g' : Option Nat} {l0 T d h : List UInt8} {l : List Nat} {w wr : World} (hi : l.length ≤ i) (hW : WB b g' (l0 ++ d) wr) (hd : d ++ chunks h (l.drop i) = wire T l) (hK : Kept (OB b g) w wr) (hg : (g' = g ∨ ∃ q, g' = some q ∧ w.heap.size ≤ q)) (q : Nat) : IwPost b g (l0 ++ wire T l) w (.returned .nilIface) (wr.drewN q) := by
  refine ⟨rfl, g', ?_, hK.drewN q, hg⟩
  rw [← hd, List.drop_of_length_le hi, chunks_nil, List.append_nil]
  exact hW
set_option maxHeartbeats 8000000 in
theorem index_Write (b xb n tb tx tc sb so sc : Nat) (g : Option Nat) (l0 : List UInt8) (T : Nat → Nat) (sa : Nat → Int) (dv : Value) (w : World) (hW : WB b g l0 w) (hI : Ix w xb T n dv tb tx tc sb so sc sa) (hx : Off b g xb) (ht : 0 < n → tb ≠ b ∧ some tb ≠ g) (hs : Off b g sb) (hlim : l0.length + 16 * n + 32768 ≤ 140737488355328) :
    Calls Tryd.prog 6 #[.pointer (some ⟨xb, 0, none⟩), wrV b] w (IwPost b g (l0 ++ wire (bts T n) (numsOf sa n)) w) := by
  have hn := hI.hn
  obtain ⟨d, c, hd⟩ : ∃ d c, dv = .slice d n c := by
    rcases hI.t with ⟨h, a, c, e⟩ | ⟨e, _⟩
    · exact ⟨a, c, by rw [h]; exact e⟩
    · exact ⟨_, _, e⟩
  subst hd
  have hmk : ∀ u, (Instr.makeSlice 28 (.int .i64 16384) (.int .i64 16384)).run Tryd.prog u = .ok (.slice (some ⟨u.heap.size, 0, none⟩) 16384 16384) (u.alloc (.cells (madeCells #[.int .u8 0] 16384) 5)) := fun u => Tryd.makeU8 u 16384 (by omega)
  have hB1 : By (w.alloc (.cells (madeCells #[.int .u8 0] 16384) 5)) w.heap.size 0 (List.replicate 10 0 ++ List.replicate 16374 0) := By.made2 w 10 16374
  have hk1 : Grew w (w.alloc (.cells (madeCells #[.int .u8 0] 16384) 5)) := (Kept.refl _ w).alloc _
  have hks : w.heap.size < (w.alloc (.cells (madeCells #[.int .u8 0] 16384) 5)).heap.size := by rw [World.size_alloc]; omega
  have hxw := World.block_lt_of_cell? w _ hI.c0
  have hbw := hW.lt
  have HI := Lib.hid hI
  have HW := Lib.hid hW
  have hko : Off b g w.heap.size := ⟨fun e => by omega, fun e => by have := (hbw.2 _ e.symm).1; omega⟩
  have HC1 := writeInt_any b w.heap.size n g l0 (List.replicate 10 0) (List.replicate 16374 0) _ (hW.kept hk1 (fun _ h => h) (fun _ _ _ h => h)) hB1 (by rw [List.length_replicate]) (by rw [List.length_replicate]) hko.1 hko.2 hn (by omega)
  replace HC1 := Lib.hid HC1
  have c0 := (hI.grew hk1).c0
  have HKO := Lib.hid hko
  have hna := nil_write b
  have hme := meth_write b
  unfold wrV bufV at *
  clear hI hW hbw hko hB1
  go_enter Tryd.func6, Tryd.ntmps6
  go_wp2_with fail
  generalize hw1 : w.alloc (.cells (madeCells #[.int .u8 0] 16384) 5) = w1 at *
  clear hw1
  refine HC1.out.mono ?_
  rintro e w2 ⟨rfl, g2, hW2, hB2, hK2, hg2⟩
  have hg2' : g2 = g ∨ ∃ q, g2 = some q ∧ w.heap.size ≤ q := hg2.imp id fun ⟨q, h1, h2⟩ => ⟨q, h1, Nat.le_trans (Nat.le_of_lt hks) h2⟩
  have hK2' : Kept (OB b g) w w2 := Kept.wasOB (hk1.mono fun _ _ _ h => h.elim) hK2 (.inl rfl) (Nat.le_refl _)
  have c02 : w2.cell? ⟨xb, 0, none⟩ = some (.slice d n c) := (hK2'.cell xb 0 hxw hx.out).trans HI.out.c0
  have htx : TextV T n w2.drew (.slice d n c) tb tx tc := HI.out.t.kept hK2'.drew fun j hj => (show Off b g tb from ht (by omega)).out
  have HKO2 : Hid (Off b g2 w.heap.size) := HKO.out.new hks hg2
  have HSZ := Lib.hid (⟨hks, hK2.size⟩ : w.heap.size < w1.heap.size ∧ w1.heap.size ≤ w2.heap.size)
  have hf1 : (over (List.replicate 10 0) (uvarint (2 * n))).length = 10 := first_len hn
  change WB b g2 (l0 ++ first n) w2 at hW2
  change By w2 w.heap.size 0 (first n ++ List.replicate 16374 0) at hB2
  replace hf1 : (first n).length = 10 := hf1
  have HC2 := buffer_Write b g2 (l0 ++ first n) (bts T n) (.slice d n c) w2.drew hW2 (srcV_of HI.out.hT htx fun h => (ht h).1) (by rw [List.length_append, hf1, bts_len]; omega)
  have HR : Hid (∃ r : List UInt8, r.length = 16374 ∧ By w2 w.heap.size 0 (first n ++ r)) := ⟨List.replicate 16374 0, by rw [List.length_replicate], hB2⟩
  rw [bts_len] at HC2
  replace HC2 := Lib.hid HC2
  have HE : Hid (∀ u e, WrPost b g2 (l0 ++ first n) (bts T n) n w2.drew e u → IwMid b g (l0 ++ first n ++ bts T n) (first n) w.heap.size w u) := fun u e hu => by
    obtain ⟨_, g3, h1, h2, h3⟩ := hu
    obtain ⟨r, hr1, hr2⟩ := HR.out
    have h2' : Kept (OB b g2) w2 u := ⟨h2.os, h2.tape, h2.output, h2.size, h2.cell, h2.frozen, h2.block, h2.shape⟩
    refine ⟨g3, r, h1, hr2.kept h2' fun j _ => HKO2.out.out, hr1, Kept.wasOB2 hK2' h2' hg2', newG hg2' h3 hK2'.size, HKO2.out.new (w := w2) (by have := HSZ.out; omega) h3⟩
  clear hK2 hW2 hB2 hg2 hg2' hK2' htx HC1 hk1 hks hf1 c0 HR
  have HXO := Lib.hid hx
  have HSO := Lib.hid hs
  clear hx hs ht
  go_upto_region 5 with fail
  go_cut [8] (fun v wx => v = .nilIface ∧ Hid (IwMid b g (l0 ++ first n ++ bts T n) (first n) w.heap.size w wx))
  case first =>
    go_region_with (
      go_at_call 109
      refine HC2.out.mono ?_
      rintro e w3 hpo
      have HF := Lib.hid (HE.out w3 _ hpo)
      obtain ⟨rfl, _⟩ := hpo
      clear HE HC2)
    all_goals (
      go_simp
      go_wp2
      go_meet
      exact ⟨rfl, HF⟩)
  case rest =>
    obtain ⟨rfl, HM⟩ := hcut
    clear hme hna HC2 HE c02 HKO2 HKO HW hmk
    obtain ⟨g3, r3, hW3, hB3, hr3, hK3, hg3, ho3⟩ := HM.out
    have c1 : wc.cell? ⟨xb, 1, none⟩ = some (.slice (some ⟨sb, so, none⟩) n sc) := (hK3.cell xb 1 hxw HXO.out.out).trans HI.out.c1
    have c2 : wc.cell? ⟨xb, 2, none⟩ = some (.slice none 0 0) := (hK3.cell xb 2 hxw HXO.out.out).trans HI.out.c2
    have hxc : xb ≠ wc.heap.size := by have := hK3.size; omega
    have HW3 := Lib.hid hW3
    have HB3 := Lib.hid hB3
    have HK3 := Lib.hid hK3
    have HG3 := Lib.hid hg3
    have HO3 := Lib.hid ho3
    have HR3 := Lib.hid hr3
    clear hW3 hB3 hr3 hK3 hg3 ho3 HM
    have hkc : w.heap.size < wc.heap.size := by have h := HR3.out; exact HB3.out.lt (by rw [List.length_append]; omega)
    have HL : Hid (∀ x ∈ numsOf sa n, x < 4294967296) := numsOf_lt fun j hj => by have := HI.out.isa.lt hj; omega
    have HLN := Lib.hid (numsOf_len sa n)
    have HSB : Hid (0 < n → sb < w.heap.size) := fun h => HI.out.s.lt h
    have HS := Lib.hid HI.out.s
    have hsc := HI.out.sc
    have HST : Hid (IwRel b g l0 (bts T n) (numsOf sa n) w.heap.size wc.heap.size sb so sc w (wc.alloc (.cells #[.slice (some ⟨sb, so, none⟩) n sc, .slice none 0 0] 46))) := by
      have hka : Grew wc (wc.alloc (.cells #[.slice (some ⟨sb, so, none⟩) n sc, .slice none 0 0] 46)) := (Kept.refl _ wc).alloc _
      have hbc := HW3.out.lt
      refine ⟨0, so, g3, first n ++ bts T n, first n, r3, Nat.zero_le _, (fun _ => rfl), ?_, ?_, ?_, ?_, ?_, ?_, HB3.out.kept hka fun _ _ h => h, ⟨first_len hn, HR3.out⟩, HK3.out.trans' hka fun _ _ _ h => h.elim, HG3.out, HO3.out, ⟨fun e => by omega, fun e => by have := (hbc.2 _ e.symm).1; omega⟩, fun h => HSO.out.new (w := w) (HSB.out (by rw [HLN.out] at h; exact h)) HG3.out⟩
      · rw [World.cell?_alloc_new, HLN.out]; rfl
      · rw [World.cell?_alloc_new]; rfl
      · rw [World.frozen?_alloc_new]
      · rw [World.frozen?_alloc_new]
      · show WB _ _ _ _
        rw [← List.append_assoc]
        exact HW3.out.kept hka (fun _ h => h) (fun _ _ _ h => h)
      · show _ = _
        rw [List.drop_zero]; unfold wire; rw [bts_len]
    go_wp2_with fail
    have hkl : w.heap.size ≤ w.heap.size := Nat.le_refl _
    have hka : w.heap.size ≤ wc.heap.size := Nat.le_of_lt hkc
    have hkn : wc.heap.size ≠ w.heap.size := by omega
    have hsw : w.heap.size = w.heap.size := rfl
    clear HK3 HB3 HW3 HG3 HO3 HR3 hxc c1 c2 hxw HSZ HXO hkc
    generalize wc.alloc (.cells #[.slice (some ⟨sb, so, none⟩) n sc, .slice none 0 0] 46) = wd at *
    generalize hk : w.heap.size = k at *
    generalize wc.heap.size = ab at *
    have HKW := Lib.hid hk
    clear hk hsw
    have HND := Lib.hid (numsOf_drop sa n)
    have HIS := Lib.hid HI.out.isa
    clear HI
    have HTL := Lib.hid (bts_len T n)
    generalize bts T n = Tl at *
    generalize numsOf sa n = l at *
    go_loopw [] (fun wr => IwRel b g l0 Tl l k ab sb so sc w wr) (fun wr => lenAt wr ⟨ab, 0, none⟩)
    case atStart => exact HST.out
    case round =>
      clear HST
      obtain ⟨i, so', g', d', h, r, hi, HSO', c0, c1, f0, f1, HW, HD, HB, HHR, HK, HG⟩ := hrel
      by_cases hlt : i < l.length
      · obtain rfl := HSO'.out hlt
        obtain ⟨hg1, hok, hoa, hos'⟩ := HG.out
        have hos := hos' hlt
        have hwl := wire_len Tl l (by rw [HTL.out]; exact hn) HL.out
        have hdl : d'.length ≤ (wire Tl l).length := by rw [← HD.out]; simp
        rw [HTL.out, HLN.out] at hwl
        have hnd : numsOf (fun j => sa (i + j)) (l.length - i) = l.drop i := by rw [HLN.out]; exact (HND.out i).symm
        have hsbk : sb < k := HSB.out (by rw [← HLN.out]; omega)
        have hsbk' : sb ≠ k := Nat.ne_of_lt hsbk
        have habr := World.block_lt_of_cell? wr _ c0
        have hkr : k < wr.heap.size := by have := HHR.out; exact HB.out.lt (by rw [List.length_append]; omega)
        have hsbr : sb < wr.heap.size := by omega
        have hln := HLN.out
        have hfl := fit_le (l.drop i) 10
        have hfp : 1 ≤ fit 10 (l.drop i) := fit_pos (by intro h; have := congrArg List.length h; simp at this; omega)
        rw [List.length_drop] at hfl
        have HWS := fun q => writeSlice_any b k sb (so + i) (l.length - i) (sc - i) g' (l0 ++ d') h r (fun j => sa (i + j)) (wr.drewN q) HW.out HB.out HHR.out.1 HHR.out.2 hok.1.symm.symm hok.2 (fun j hj => by
            have h1 := (HS.out.kept HK.out fun j _ => HSO.out.out) (i + j) (by omega)
            rw [← Nat.add_assoc] at h1; exact h1) (by omega) (by omega) (fun j hj => by have := HIS.out.lt (show i + j < n by omega); omega) hsbk' (by rw [List.length_append]; omega)
        rw [hnd] at HWS
        replace HWS := Lib.hid HWS
        unfold wrV bufV at HWS
        have HSTEP : Hid (∀ (q : Nat) (w4 w5 : World) (e : Ending) (so'' : Nat), WsPost b g' k (l0 ++ d') h (l.drop i) (wr.drewN q) e w4 → (fit 10 (l.drop i) < l.length - i → so'' = so + i + fit 10 (l.drop i)) → Grew w4 w5 →
            IwRel b g l0 Tl l k ab sb so sc w ((w5.setCell ⟨ab, 0, none⟩ (.slice (some ⟨sb, so'', none⟩) (l.length - i - fit 10 (l.drop i)) (sc - i - fit 10 (l.drop i)))).setCell ⟨ab, 1, none⟩ (.slice none 0 0))) := fun q w4 w5 e so'' hp hso h5 =>
          iw_step hlt HD.out HHR.out.1 HL.out (HK.out.drewN q) hg1 hok hoa hos hkn (by rw [HKW.out]; exact Nat.le_refl _) (by rw [HKW.out]; exact hka) hkr hsbr (by show (wr.cell? _).isSome = true; rw [c0]; rfl) (by show (wr.cell? _).isSome = true; rw [c1]; rfl) f0 f1 hp rfl hso h5
        have HOA := Lib.hid hoa
        have hms : l.length - i ≤ sc - i := by omega
        have hmb : l.length - i ≤ 1073741824 := by omega
        have hm0 : 0 < l.length - i := by omega
        have HLA := Lib.hid (lenAt_eq c0)
        generalize l.length - i = m at *
        generalize hKK : fit 10 (l.drop i) = K at *
        have HKK := Lib.hid hKK
        clear hKK
        clear hwl hdl hnd hos hos' hok hg1 hoa HD HB HW HHR HK HG HND HL HTL HS HIS HSB hln hi hlt HSO' hlim hsc HKW hsbk hsbk' hkr hsbr HSO
        have HLE := Lib.hid (ints_len ab 0 m (sc - i) (some ⟨sb, so + i, none⟩) wr hmb c0 c1)
        have y0 : (0 : Int) < (m : Int) := by omega
        go_wp2_with fail
        refine HLE.out.mono ?_
        rintro e w3 ⟨rfl, q, rfl⟩
        replace c0 : (wr.drewN q).cell? ⟨ab, 0, none⟩ = some (.slice (some ⟨sb, so + i, none⟩) m (sc - i)) := c0
        replace c1 : (wr.drewN q).cell? ⟨ab, 1, none⟩ = some (.slice none 0 0) := c1
        replace f0 : (wr.drewN q).frozen? ⟨ab, 0, none⟩ = false := f0
        replace f1 : (wr.drewN q).frozen? ⟨ab, 1, none⟩ = false := f1
        replace habr : ab < (wr.drewN q).heap.size := habr
        replace HWS := Lib.hid (HWS.out q)
        replace HSTEP := Lib.hid (HSTEP.out q)
        clear HLE
        generalize wr.drewN q = w3 at *
        go_wp2_with fail
        refine HWS.out.mono ?_
        rintro e w4 hp
        replace HSTEP := Lib.hid (fun w5 so'' => HSTEP.out w4 w5 _ so'' hp)
        have hK4 : Kept (OW b g' k 16384) w3 w4 := by obtain ⟨_, _, _, _, h, _⟩ := hp; exact h
        obtain ⟨he, _⟩ := hp
        rw [HKK.out] at he
        subst he
        have hnS : ∀ o, ¬ OW b g' k 16384 ab o := fun o hh => by
          rcases hh with hh | hh
          · exact HOA.out.out (o := 0) hh
          · exact hkn hh.1
        replace c0 := (hK4.cell ab 0 habr (hnS 0)).trans c0
        replace c1 := (hK4.cell ab 1 habr (hnS 1)).trans c1
        replace f0 := (hK4.frozen ab 0 habr).trans f0
        replace f1 := (hK4.frozen ab 1 habr).trans f1
        replace habr := Nat.lt_of_lt_of_le habr hK4.size
        clear hK4 hnS HWS
        have HLE := Lib.hid (ints_len ab 0 m (sc - i) (some ⟨sb, so + i, none⟩) w4 hmb c0 c1)
        have HTA := Lib.hid (fun q => ints_slice_tail ab 0 m (sc - i) sb (so + i) K (w4.drewN q) hmb hfl hms c0)
        go_wp2_with fail
        refine HLE.out.mono ?_
        rintro e w5 ⟨rfl, q5, rfl⟩
        obtain ⟨so'', hso'', HTC⟩ := HTA.out q5
        replace HTC := Lib.hid HTC
        replace HSTEP := Lib.hid (fun w6 => HSTEP.out w6 so'' hso'')
        clear hso'' HTA HLE
        go_wp2_with fail
        refine HTC.out.mono ?_
        rintro e w6 ⟨rfl, hK6⟩
        have hK6' : Grew w4 w6 := ((Kept.refl _ w4).drewN q5).trans hK6
        replace HSTEP := Lib.hid (HSTEP.out w6 hK6')
        replace c0 := (hK6'.cell ab 0 habr (fun h => h)).trans c0
        replace c1 := (hK6'.cell ab 1 habr (fun h => h)).trans c1
        replace f0 := (hK6'.frozen ab 0 habr).trans f0
        replace f1 := (hK6'.frozen ab 1 habr).trans f1
        clear hK6 hK6' HTC
        have HME : Hid (lenAt ((w6.setCell ⟨ab, 0, none⟩ (.slice (some ⟨sb, so'', none⟩) (m - K) (sc - i - K))).setCell ⟨ab, 1, none⟩ (.slice none 0 0)) ⟨ab, 0, none⟩ < m) := by
          show _ < _
          rw [lenAt_eq (p := some ⟨sb, so'', none⟩) (m := m - K) (c := sc - i - K) (by rw [World.cell?_setCell_other _ _ _ _ (by simp), World.cell?_setCell_same _ _ _ c0])]
          omega
        go_wp2
        go_roundw
        case rel => exact HSTEP.out
        case measure => rw [HLA.out]; exact HME.out
      · have hm0 : l.length - i = 0 := by omega
        have HEND := Lib.hid (fun q => iw_end (by omega) HW.out HD.out HK.out HG.out.1 q)
        rw [hm0] at c0
        have HLE := Lib.hid (ints_len ab 0 0 (sc - i) (some ⟨sb, so', none⟩) wr (by omega) c0 c1)
        clear hm0 hlt hi HD HW HB HHR HK HG hlim
        go_wp2_with fail
        refine HLE.out.mono ?_
        rintro e w3 ⟨rfl, q, rfl⟩
        go_wp2
        go_ret
        exact HEND.out q
end Go.Proofs.YtoebcbmkkhbldaaDoor
