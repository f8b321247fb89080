/- (*Index).Read over a stream that ends too early. -/
import Derived.Test.YtoebcbmkkhbldaaGreatDoorQCt2
import Derived.Test.YtoebcbmkkhbldaaGreatDoorQRdz
set_option linter.unusedVariables false
namespace Go.Proofs.YtoebcbmkkhbldaaGreatDoor
open Go.RowKit Go.Mem Sais Go.Lib Go.Wire
set_option maxRecDepth 100000

/-- A part of the pieces, not all of them. -/
def CkCut (h : List UInt8) (l : List Nat) (y : List UInt8) : Prop := ∃ m, m < (chunks h l).length ∧ y = (chunks h l).take m
theorem CkCut.ne {h : List UInt8} {l : List Nat} {y : List UInt8} (hc : CkCut h l y) : l ≠ [] := fun e => by
  obtain ⟨m, h1, _⟩ := hc
  rw [e, chunks_nil] at h1
  exact Nat.not_lt_zero _ h1
/-- The next piece is there, or it is cut. -/
theorem CkCut.step {h : List UInt8} {l : List Nat} {y : List UInt8} (hc : CkCut h l y) (hh : h.length = 10) (hl : ∀ x ∈ l, x < 4294967296) : RsCut h l y ∨ ∃ y', y = head h l ++ (enc (l.take (fit 10 l)) ++ y') ∧ CkCut (head h l) (l.drop (fit 10 l)) y' := by
  have hne := hc.ne
  obtain ⟨m, h1, rfl⟩ := hc
  have hhl : (head h l).length = 10 := head_len l hh hl
  rw [chunks_more h hne] at h1 ⊢
  rw [List.append_assoc] at h1 ⊢
  rw [List.length_append, List.length_append, hhl] at h1
  by_cases h2 : m < 10
  · exact .inl (.inl (by rw [List.length_take]; omega))
  · by_cases h3 : m < 10 + (enc (l.take (fit 10 l))).length
    · refine .inl (.inr ⟨(enc (l.take (fit 10 l))).take (m - 10), ?_, by rw [List.length_take]; omega⟩)
      rw [List.take_append, hhl, List.take_of_length_le (by omega), List.take_append_of_le_length (by omega)]
    · refine .inr ⟨(chunks (head h l) (l.drop (fit 10 l))).take (m - 10 - (enc (l.take (fit 10 l))).length), ?_, _, by omega, rfl⟩
      rw [List.take_append, hhl, List.take_of_length_le (by omega), List.take_append, List.take_of_length_le (l := enc _) (by omega)]
/-- A part of what stands behind the first header, not all of it. -/
def ZCut (T : Nat → Nat) (n : Nat) (sa : Nat → Int) (z : List UInt8) : Prop := z.length < n ∨ ∃ y, z = bts T n ++ y ∧ CkCut (first n) (numsOf sa n) y
/-- What Read leaves where the stream ends too early: an error. -/
def RxcPost (b q xb tb sb : Nat) (w : World) (e : Ending) (w' : World) : Prop := ∃ v, e = .returned v ∧ ErrOf v ∧ Kept (OX (DB b q) xb tb sb) w w'
theorem hold_join {w w' : World} {sb c i m : Nat} {f g : Nat → Int} {S : Nat → Nat → Prop} (h : Hold .i32 w sb 0 c f) (h' : Hold .i32 w' sb i m g) (hK : Kept S w w') (hs : ∀ o, (o < i ∨ i + m ≤ o) → ¬ S sb o) : ∃ f', Hold .i32 w' sb 0 c f' := by
  refine ⟨fun j => if i ≤ j ∧ j < i + m then g (j - i) else f j, fun j hj => ?_⟩
  by_cases hin : i ≤ j ∧ j < i + m
  · have := h' (j - i) (by omega)
    rw [show i + (j - i) = 0 + j by omega] at this
    dsimp only
    rw [if_pos hin]; exact this
  · have hsw : sb < w.heap.size := World.block_lt_of_cell? w _ (h j hj).1
    have hn : ¬ S sb (0 + j) := hs _ (by omega)
    dsimp only
    rw [if_neg hin, hK.cell sb _ hsw hn, hK.frozen sb _ hsw]; exact h j hj
/-- The relation of the loop. -/
def RcxRel (b q : Nat) (l : List Nat) (k ab sb c : Nat) (w wr : World) : Prop :=
  ∃ (i so' : Nat) (h bb y : List UInt8) (f : Nat → Int), i ≤ l.length ∧ Hid (i < l.length → so' = i) ∧ wr.cell? ⟨ab, 0, none⟩ = some (.slice (some ⟨sb, so', none⟩) (l.length - i) (c - i)) ∧ wr.cell? ⟨ab, 1, none⟩ = some (.slice none 0 0) ∧ wr.frozen? ⟨ab, 0, none⟩ = false ∧ wr.frozen? ⟨ab, 1, none⟩ = false ∧
    Hid (RB b q y wr) ∧ Hid (CkCut h (l.drop i) y) ∧ Hid (h.length = 10) ∧ Hid (By wr k 0 bb ∧ bb.length = 16384) ∧ Hid (Hold .i32 wr sb 0 c f) ∧ Hid (Kept (fun x _ => DB b q x ∨ x = k ∨ x = ab ∨ x = sb) w wr)
theorem rcx_step {b q : Nat} {h y : List UInt8} {l : List Nat} {k ab sb c i so'' : Nat} {f : Nat → Int} {w wr w4 w5 : World} {e : Ending} (hi : i < l.length) (hlc : l.length ≤ c) (hh : h.length = 10) (hl : ∀ x ∈ l, x < 4294967296) (hka : k ≠ ab) (hsa : sb ≠ ab) (hks : k ≠ sb) (hDk : ¬ DB b q k) (hDa : ¬ DB b q ab) (hDs : ¬ DB b q sb)
    (c0 : (wr.cell? ⟨ab, 0, none⟩).isSome) (c1 : (wr.cell? ⟨ab, 1, none⟩).isSome) (f0' : wr.frozen? ⟨ab, 0, none⟩ = false) (f1' : wr.frozen? ⟨ab, 1, none⟩ = false) (hH : Hold .i32 wr sb 0 c f) (hK : Kept (fun x _ => DB b q x ∨ x = k ∨ x = ab ∨ x = sb) w wr)
    (hp : RgPost (RB b q) (DB b q) y (l.drop i) k sb i (l.length - i) (fun j => f (i + j)) wr e w4) (hy : CkCut (head h (l.drop i)) ((l.drop i).drop (fit 10 (l.drop i))) y) (hso : fit 10 (l.drop i) < l.length - i → so'' = i + fit 10 (l.drop i)) (h5 : Grew w4 w5) :
    RcxRel b q l k ab sb c w ((w5.setCell ⟨ab, 0, none⟩ (.slice (some ⟨sb, so'', none⟩) (l.length - i - fit 10 (l.drop i)) (c - i - fit 10 (l.drop i)))).setCell ⟨ab, 1, none⟩ (.slice none 0 0)) := by
  obtain ⟨_, hS, ⟨bb, hB, hb⟩, hH4, hK4⟩ := hp
  have hf := fit_le (l.drop i) 10
  rw [List.length_drop] at hf
  have haw : ab < wr.heap.size := by
    obtain ⟨v, hv⟩ := Option.isSome_iff_exists.1 c0
    exact World.block_lt_of_cell? wr _ hv
  have hK45 := hK4.trans' h5 fun _ _ _ h => h.elim
  have hnS : ∀ o, ¬ SR (DB b q) k sb i (l.length - i) ab o := fun o hh => by
    rcases hh with (hh | hh) | hh
    · exact hDa hh
    · exact hka hh.symm
    · exact hsa hh.1.symm
  have e0 : (w5.cell? ⟨ab, 0, none⟩).isSome := by rw [hK45.cell ab 0 haw (hnS 0)]; exact c0
  have e1 : (w5.cell? ⟨ab, 1, none⟩).isSome := by rw [hK45.cell ab 1 haw (hnS 1)]; exact c1
  obtain ⟨v0, e0⟩ := Option.isSome_iff_exists.1 e0
  obtain ⟨v1, e1⟩ := Option.isSome_iff_exists.1 e1
  obtain ⟨f', hH5⟩ := hold_join hH (hH4.kept h5 fun _ _ h => h) hK45 fun o ho hx => by
    rcases hx with (hx | hx) | hx
    · exact hDs hx
    · exact hks hx.symm
    · have := hx.2; omega
  have hK6 : Kept (fun x _ => x = ab) w5 ((w5.setCell ⟨ab, 0, none⟩ (.slice (some ⟨sb, so'', none⟩) (l.length - i - fit 10 (l.drop i)) (c - i - fit 10 (l.drop i)))).setCell ⟨ab, 1, none⟩ (.slice none 0 0)) := ((Kept.refl (fun x _ => x = ab) w5).set _ rfl).set _ rfl
  refine ⟨i + fit 10 (l.drop i), so'', head h (l.drop i), bb, y, f', by omega, (fun hlt => hso (by omega)), ?_, ?_, ?_, ?_, ?_, ?_, head_len _ hh fun x hx => hl x (List.mem_of_mem_drop hx), ⟨(hB.kept h5 fun _ _ h => h).kept hK6 fun j _ hx => hka hx, hb⟩, hH5.kept hK6 fun j _ hx => hsa hx, ?_⟩
  · rw [World.cell?_setCell_other _ _ _ _ (by simp), World.cell?_setCell_same _ _ _ e0, ← Nat.sub_sub, ← Nat.sub_sub]
  · rw [World.cell?_setCell_same _ _ _ (u := v1)]
    rw [World.cell?_setCell_other _ _ _ _ (by simp)]; exact e1
  · rw [World.frozen?_setCell, World.frozen?_setCell, hK45.frozen ab 0 haw]; exact f0'
  · rw [World.frozen?_setCell, World.frozen?_setCell, hK45.frozen ab 1 haw]; exact f1'
  · exact (hS.kept h5 fun _ _ _ h => h).kept hK6 fun x o hx hh => hDa (by rw [← hh]; exact hx)
  · show CkCut _ _ _
    rw [← List.drop_drop]; exact hy
  · refine (hK.trans' hK45 fun x o _ hx => ?_).trans' hK6 fun x o _ hx => .inr (.inr (.inl hx))
    rcases hx with (hx | hx) | hx
    · exact .inl hx
    · exact .inr (.inl hx)
    · exact .inr (.inr (.inr hx.1))
theorem rcx_start {b q : Nat} {y bb : List UInt8} {n k sb c : Nat} {sa f0 : Nat → Int} {w3 : World} (hn : n ≤ 1073741824) (hS : RB b q y w3) (hy : CkCut (first n) (numsOf sa n) y) (hB : By w3 k 0 bb) (hb : bb.length = 16384) (hf0 : Hold .i32 w3 sb 0 c f0) :
    RcxRel b q (numsOf sa n) k w3.heap.size sb c w3 (w3.alloc (.cells #[.slice (some ⟨sb, 0, none⟩) n c, .slice none 0 0] 70)) := by
  have hka : Grew w3 (w3.alloc (.cells #[.slice (some ⟨sb, 0, none⟩) n c, .slice none 0 0] 70)) := (Kept.refl _ w3).alloc _
  refine ⟨0, 0, first n, bb, y, f0, Nat.zero_le _, (fun _ => rfl), ?_, ?_, ?_, ?_, hS.kept hka (fun _ _ _ h => h), by rw [List.drop_zero]; exact hy, first_len hn, ⟨hB.kept hka fun _ _ h => h, hb⟩, hf0.kept hka fun _ _ h => h, (Kept.refl _ _).trans' hka fun _ _ _ h => h.elim⟩
  · rw [World.cell?_alloc_new, numsOf_len]; rfl
  · rw [World.cell?_alloc_new]; rfl
  · rw [World.frozen?_alloc_new]
  · rw [World.frozen?_alloc_new]
/-- The stream ends within the first header. -/
theorem index_ReadCut0 (b q lo xb tb sb c n0 : Nat) (d : Option Addr) (s : List UInt8) (w : World) (hO : Own w xb tb sb c n0 d) (hS : RB b q s w) (hs : s.length < 10) (hE : Errs lo w) (hlw : lo ≤ w.heap.size) (hlb : lo ≤ b) (hlq : lo ≤ q) :
    Calls Tryz.prog 26 #[.pointer (some ⟨xb, 0, none⟩), .iface 56 (.pointer (some ⟨b, 0, none⟩))] w (RxcPost b q xb tb sb w) := by
  have R := buffer_Rdr b q
  have hmk : ∀ u, (Instr.makeSlice 46 (.int .i64 16384) (.int .i64 16384)).run Tryz.prog u = .ok (.slice (some ⟨u.heap.size, 0, none⟩) 16384 16384) (u.alloc (.cells (madeCells #[.int .u8 0] 16384) 5)) := fun u => Tryz.makeU8 u 16384 (by omega)
  have hB1 : By (w.alloc (.cells (madeCells #[.int .u8 0] 16384) 5)) w.heap.size 0 (List.replicate 10 0 ++ List.replicate 16374 0) := By.made2 w 10 16374
  have hk1 : Grew w (w.alloc (.cells (madeCells #[.int .u8 0] 16384) 5)) := (Kept.refl _ w).alloc _
  have hDk : ¬ DB b q w.heap.size := fun h => by have := R.lt hS _ h; omega
  have HRI := Lib.hid (readInt_cut b q s (List.replicate 10 0) (List.replicate 16374 0) w.heap.size lo _ (hS.kept hk1 fun _ _ _ h => h) hB1 (by rw [List.length_replicate]) (by rw [List.length_replicate]) hs hDk (hE.kept hk1 fun _ _ _ h => h) hlw hlb hlq)
  have HK1 := Lib.hid hk1
  unfold bufV at *
  clear R hO hS hs hE hB1 hk1 hDk
  go_enter Tryz.func26, Tryz.ntmps26
  go_wp2_with fail
  refine HRI.out.mono ?_
  rintro e w2 ⟨x, v, rfl, ⟨a, rfl⟩, hK⟩
  have HQ : Hid (RxcPost b q xb tb sb w (.returned (.iface 144 (.pointer (some a)))) w2) := ⟨_, rfl, ⟨a, rfl⟩, (HK1.out.mono fun _ _ _ h => h.elim).trans' hK fun x o hx hh => hh.elim .inl fun hh => by omega⟩
  clear hK HK1 HRI hmk
  go_wp2
  go_ret
  exact HQ.out
set_option maxHeartbeats 8000000 in
theorem index_ReadCut (b q lo xb tb sb c n0 n : Nat) (d : Option Addr) (T : Nat → Nat) (sa : Nat → Int) (z : List UInt8) (w : World) (hO : Own w xb tb sb c n0 d) (hn : n ≤ 1073741824) (hT : ∀ i, i < n → T i < 256) (hI : IsSA T n sa)
    (hS : RB b q (first n ++ z) w) (hz : ZCut T n sa z) (hmax : MaxIs w) (hDm : ¬ DB b q 0) (hxm : xb ≠ 0) (hDx : ¬ DB b q xb) (hDt : ¬ DB b q tb) (hDs : ¬ DB b q sb) (hE : Errs lo w) (hlw : lo ≤ w.heap.size) (hlb : lo ≤ b) (hlq : lo ≤ q) (hlx : lo ≤ xb) (hlt : lo ≤ tb) (hls : lo ≤ sb) :
    Calls Tryz.prog 26 #[.pointer (some ⟨xb, 0, none⟩), .iface 56 (.pointer (some ⟨b, 0, none⟩))] w (RxcPost b q xb tb sb w) := by
  have R := buffer_Rdr b q
  have hmk : ∀ u, (Instr.makeSlice 46 (.int .i64 16384) (.int .i64 16384)).run Tryz.prog u = .ok (.slice (some ⟨u.heap.size, 0, none⟩) 16384 16384) (u.alloc (.cells (madeCells #[.int .u8 0] 16384) 5)) := fun u => Tryz.makeU8 u 16384 (by omega)
  have hB1 : By (w.alloc (.cells (madeCells #[.int .u8 0] 16384) 5)) w.heap.size 0 (List.replicate 10 0 ++ List.replicate 16374 0) := By.made2 w 10 16374
  have hk1 : Grew w (w.alloc (.cells (madeCells #[.int .u8 0] 16384) 5)) := (Kept.refl _ w).alloc _
  have hks : w.heap.size < (w.alloc (.cells (madeCells #[.int .u8 0] 16384) 5)).heap.size := by rw [World.size_alloc]; omega
  have hDk : ¬ DB b q w.heap.size := fun h => by have := R.lt hS _ h; omega
  have hfl : (first n).length = 10 := first_len hn
  have hS1 := R.kept hS hk1 fun _ _ _ h => h
  have HRI := readInt_any R _ (List.replicate 10 0) (List.replicate 16374 0) w.heap.size _ hS1 hB1 (by rw [List.length_replicate]) (by rw [List.length_replicate]) (by rw [List.length_append]; omega) hDk
  have hO1 := hO.kept hk1 (fun _ h => h) (fun _ h => h) (fun _ h => h)
  have hM1 := hmax.grew hk1
  have hgm := World.block_lt_of_cell? w _ hmax
  have hgm1 := World.block_lt_of_cell? _ _ hM1
  have HP1 : Hid (∀ e w2, RnPost (RB b q) (DB b q) (first n ++ z) (List.replicate 16374 0) w.heap.size (w.alloc (.cells (madeCells #[.int .u8 0] 16384) 5)) e w2 → e = .returned (.tuple #[.int .i64 (n : Nat), .nilIface]) ∧ RB b q z w2 ∧ (∃ b, By w2 w.heap.size 0 b ∧ b.length = 16384) ∧ Own w2 xb tb sb c n0 d ∧ MaxIs w2 ∧ Kept (fun x _ => DB b q x) w w2 ∧ w.heap.size < w2.heap.size) := fun e w2 hp => by
    obtain ⟨h1, h2, h3, h4⟩ := hp
    rw [List.take_left' hfl] at h1 h3
    rw [List.drop_left' hfl] at h2
    rw [dec_first n _ hn] at h1
    have hno : ∀ x, x < w.heap.size → ¬ DB b q x → ∀ o, ¬ (DB b q x ∨ In w.heap.size 0 10 x o) := fun x hx hd o hh => hh.elim hd fun hh => by have := hh.1; omega
    refine ⟨h1, h2, ⟨_, h3, by rw [List.length_append, hfl, List.length_replicate]⟩, hO1.kept h4 (hno _ hO.lx hDx) (hno _ hO.lt hDt) (hno _ hO.ls hDs), (h4.cell _ 0 hgm1 (hno _ hgm hDm 0)).trans hM1, (hk1.mono fun _ _ _ h => h.elim).trans' h4 fun x o hx hh => hh.elim id fun hh => by have := hh.1; omega, Nat.lt_of_lt_of_le hks h4.size⟩
  clear hS1 hO1 hM1 hB1 hk1 hgm1 hfl hks
  have HRI' := Lib.hid HRI
  have HR := Lib.hid R
  have HDx := Lib.hid hDx
  have HDt := Lib.hid hDt
  have HDs := Lib.hid hDs
  have HDk := Lib.hid hDk
  have HI := Lib.hid hI
  have HT := Lib.hid hT
  have HOLD := Lib.hid hO
  have HS0 := Lib.hid hS
  have HE := Lib.hid hE
  have HZ := Lib.hid hz
  clear R HRI hO hS hmax hDx hDt hDs hDk hDm hI hT hE hz
  unfold bufV at *
  go_enter Tryz.func26, Tryz.ntmps26
  go_wp2_with fail
  refine HRI'.out.mono ?_
  rintro e w2 hp
  obtain ⟨he, hS2, hB2, hO2, hM2, hK2, hs2⟩ := HP1.out e w2 hp
  subst he
  clear hp HP1 HRI' hmk
  have c0 := hO2.c0
  have c1 := hO2.c1
  have c2 := hO2.c2
  have g0 : w2.cell? ⟨0, 0, none⟩ = some (.int .i64 2147483647) := hM2
  have hcb := hO2.cb
  have f0 := hO2.f 0 (by omega)
  have f1 := hO2.f 1 (by omega)
  have f2 := hO2.f 2 (by omega)
  have HO2 := Lib.hid hO2
  have HS2 := Lib.hid hS2
  have HB2 := Lib.hid hB2
  have HK2 := Lib.hid hK2
  clear hS2 hB2 hO2 hM2 hK2
  have y0 : decide ((n : Int) < 0) = false := by simp
  have y1 : IntKind.i64.wrap (2 * (n : Int)) = 2 * (n : Int) := by rw [IntKind.wrap_i64]; omega
  have q1 := Tryz.neq77s
  have q2 := nil64
  have y2 : ¬ (2147483647 : Int) < (n : Int) := by omega
  have y3 : (n : Int) ≤ 2147483647 := by omega
  go_upto_region 8 with fail
  go_cut [75] (fun v wx => ∃ bb : Bool, v = .bool bb ∧ w2 = wx ∧ Hid (bb = true ↔ (2 * n < c ∨ c < n)))
  case first =>
    by_cases h1 : 2 * n < c
    · have z1 : decide (2 * (n : Int) < (c : Int)) = true := by simp; omega
      go_wp2
      go_meet
      exact ⟨_, rfl, rfl, by show _ ↔ _; simp; omega⟩
    · have z1 : decide (2 * (n : Int) < (c : Int)) = false := by simp; omega
      by_cases h2 : c < n
      · have z2 : decide ((c : Int) < (n : Int)) = true := by simp; omega
        go_wp2
        go_meet
        exact ⟨_, rfl, rfl, by show _ ↔ _; simp; omega⟩
      · have z2 : decide ((c : Int) < (n : Int)) = false := by simp; omega
        have z3 : decide ((2147483647 : Int) < (n : Int)) = false := by simp; omega
        have z4 : decide ((n : Int) ≤ (2147483647 : Int)) = true := by simp; omega
        go_wp2
        go_meet
        exact ⟨_, rfl, rfl, by show _ ↔ _; simp; omega⟩
  case rest =>
    obtain ⟨bb, rfl, rfl, HBB⟩ := hcut
    go_upto_if 75 with fail
    go_cut [] (fun wx => Hid (RxMid (RB b q) (DB b q) z w.heap.size xb tb sb n w wx))
    case first =>
      cases bb
      · have hb2 : ¬ (2 * n < c ∨ c < n) := fun hh => by have := HBB.out.2 hh; cases this
        have HSL := Lib.hid (ints_slice_zero xb 1 n0 c sb n (w2.setCell ⟨xb, 0, none⟩ (.slice d n c)) (by omega) hcb (by rw [World.cell?_setCell_other _ _ _ _ (by simp)]; exact c1))
        go_wp2_with fail
        refine HSL.out.mono ?_
        rintro e w3 ⟨rfl, hK3⟩
        have HRE := Lib.hid (own_re HO2.out hK3 (by omega))
        have hxl : xb < (w2.setCell ⟨xb, 0, none⟩ (.slice d n c)).heap.size := by rw [World.size_setCell]; exact HO2.out.lx
        have d1 : w3.cell? ⟨xb, 1, none⟩ = some (.slice (some ⟨sb, 0, none⟩) n0 c) := (hK3.cell xb 1 hxl fun h => h).trans (by rw [World.cell?_setCell_other _ _ _ _ (by simp)]; exact c1)
        have d2 : w3.cell? ⟨xb, 2, none⟩ = some (.slice none 0 0) := (hK3.cell xb 2 hxl fun h => h).trans (by rw [World.cell?_setCell_other _ _ _ _ (by simp)]; exact c2)
        have e1 : w3.frozen? ⟨xb, 1, none⟩ = false := (hK3.frozen xb 1 hxl).trans (by rw [World.frozen?_setCell]; exact f1)
        have e2 : w3.frozen? ⟨xb, 2, none⟩ = false := (hK3.frozen xb 2 hxl).trans (by rw [World.frozen?_setCell]; exact f2)
        clear hK3 HSL
        go_wp2
        go_meet
        exact HRE.out.mid HR.out HS2.out HB2.out HK2.out HDx.out HOLD.out rfl hs2
      · have hmk8 := fun u => Tryz.makeU8 u n hn
        have hmk32 := fun u => Tryz.make32 u n hn
        have hxl := HO2.out.lx
        have hx1 : xb ≠ w2.heap.size := Nat.ne_of_lt hxl
        have hx2 : xb ≠ w2.heap.size + 1 := by omega
        go_upto_region 12 with fail
        have HN1 := Lib.hid (new1 (n := n) HO2.out)
        generalize (((w2.setCell ⟨xb, 0, none⟩ (.slice (some ⟨w2.heap.size, 0, none⟩) n n)).setCell ⟨xb, 1, none⟩ (.slice none 0 0)).setCell ⟨xb, 2, none⟩ (.slice none 0 0)).alloc (.cells (madeCells #[.int .u8 0] n) 5) = W1 at *
        have HRE := Lib.hid (own_new (tb := tb) (sb := sb) HN1.out hn)
        have gA : W1.cell? ⟨0, 0, none⟩ = some (.int .i64 2147483647) := (HN1.out.k.cell _ 0 (World.block_lt_of_cell? _ _ g0) fun h => hxm h.symm).trans g0
        have d1 := HN1.out.c1
        have e1 := HN1.out.f 1 (by omega)
        have hx3 : xb ≠ W1.heap.size := by have := HN1.out.s; omega
        have hx4 : xb < W1.heap.size := by have := HN1.out.s; omega
        clear g0 c0 c1 c2 f0 f1 f2
        go_wp2
        go_meet
        exact HRE.out.mid HR.out HS2.out HB2.out HK2.out HDx.out HOLD.out rfl hs2
    case rest =>
      clear HBB HS2 HB2 HK2 HO2 c0 c1 c2 f0 f1 f2 g0
      obtain ⟨tb', sb', c', d', hO, hS, ⟨bb, hB, hbl⟩, hK, hwh⟩ := hcut.out
      have c0 := hO.c0
      have hcb' := hO.cb
      have hnc := hO.nc
      have HO := Lib.hid hO
      have HS := Lib.hid hS
      have HB := Lib.hid hB
      have HBL := Lib.hid hbl
      have HK := Lib.hid hK
      have HWH := Lib.hid hwh
      have hw0 := HOLD.out
      have HDt' : Hid (¬ DB b q tb') := by
        rcases hwh with ⟨e, _⟩ | ⟨e, _⟩
        · rw [e]; exact HDt.out
        · exact fun h => by have := HR.out.lt HS0.out _ h; omega
      have HDs' : Hid (¬ DB b q sb') := by
        rcases hwh with ⟨_, e⟩ | ⟨_, e⟩
        · rw [e]; exact HDs.out
        · exact fun h => by have := HR.out.lt HS0.out _ h; omega
      have hkt : w.heap.size ≠ tb' := by
        rcases hwh with ⟨e, _⟩ | ⟨e, _⟩
        · have := hw0.lt; omega
        · omega
      have hks : w.heap.size ≠ sb' := by
        rcases hwh with ⟨_, e⟩ | ⟨_, e⟩
        · have := hw0.ls; omega
        · omega
      have hkx : xb ≠ w.heap.size := by have := hw0.lx; omega
      have hkc : w.heap.size < wc.heap.size := hB.lt (by rw [hbl]; omega)
      have hlt' : lo ≤ tb' := by
        rcases hwh with ⟨e, _⟩ | ⟨e, _⟩ <;> omega
      have HEX : Hid (∀ wr, Kept (OX (DB b q) xb tb sb) w wr → Errs lo wr) := fun wr hk => HE.out.kept hk fun x o hx hh => by
        rcases hh with (hh | hh) | hh | hh | hh <;> omega
      have HTB : Hid (∀ (x : Nat), x < w.heap.size → x = tb' → x = tb) := fun x hx e => by
        rcases HWH.out with ⟨e2, _⟩ | ⟨e2, _⟩
        · exact e.trans e2
        · omega
      have HSB : Hid (∀ (x : Nat), x < w.heap.size → x = sb' → x = sb) := fun x hx e => by
        rcases HWH.out with ⟨_, e2⟩ | ⟨_, e2⟩
        · exact e.trans e2
        · omega
      rcases HZ.out with hz | ⟨y, hz, hy⟩
      · have hd : d' = some ⟨tb', 0, none⟩ := by
          rcases hO.hd with h | ⟨_, h⟩
          · exact h
          · omega
        subst hd
        obtain ⟨f, hf, hfl⟩ := hO.ht
        have hBy : By wc tb' 0 (f.take n ++ f.drop n) := by rw [List.take_append_drop]; unfold By; rw [hfl]; exact hf
        have hfn : (f.take n).length = n := by rw [List.length_take]; omega
        have HRF := readFull_cut b q z (f.take n) tb' 0 c' lo wc hS hBy.left (by omega) (by omega) (by omega) HDt'.out (HEX.out _ hK) hlt' hlb hlq
        have HQ : Hid (∀ e w3, RcPost b q (f.take n) tb' 0 wc e w3 → ∃ (m : Nat) (a : Addr), e = .returned (.tuple #[.int .i64 (m : Nat), .iface 144 (.pointer (some a))]) ∧ RxcPost b q xb tb sb w (.returned (.iface 144 (.pointer (some a)))) w3) := fun e w3 ⟨m, v, l', h1, ⟨a, h2⟩, _, _, _, h3⟩ => by
          subst h2
          refine ⟨m, a, h1, _, rfl, ⟨a, rfl⟩, HK.out.trans' h3 fun x o hx hh => ?_⟩
          rcases hh with hh | hh
          · exact .inl hh
          · exact .inr (.inr (.inl (HTB.out x hx hh.1)))
        rw [hfn] at HRF
        replace HRF := Lib.hid HRF
        clear hO hS hB hbl hK hwh hcut hgm hw0 hf hfl hBy hfn HO HS HB HBL HK HWH HTB HSB HEX HOLD HS0 HE HZ HDt' HDs' hz HDx HDt HDs HI HT HR HDk
        go_wp2_with fail
        refine HRF.out.mono ?_
        intro e w3 hp
        obtain ⟨m, a, he, hq⟩ := HQ.out e w3 hp
        subst he
        have HQ2 := Lib.hid hq
        clear hp hq HQ HRF
        go_wp2
        go_ret
        exact HQ2.out
      · have hS' := hS
        rw [hz] at hS'
        have HRD := Lib.hid (read_data HR.out hO hS' (bts_len T n) HDt'.out HDx.out HDs'.out)
        have HY := Lib.hid hy
        clear hO hS hB hbl hK hwh hcut hgm hw0 hS' hz hy HZ
        go_wp2_with fail
        refine HRD.out.mono ?_
        rintro e w3 ⟨rfl, hS3, hB3, hK3, hO3⟩
        have hBk := HB.out.kept hK3 fun j _ hh => hh.elim HDk.out hkt
        have HKw : Hid (Kept (OX (DB b q) xb tb sb) w w3) := HK.out.trans' hK3 fun x o hx hh => by
          rcases hh with hh | hh
          · exact .inl hh
          · exact .inr (.inr (.inl (HTB.out x hx hh)))
        have HS3 := Lib.hid hS3
        have HBk := Lib.hid hBk
        have HO3 := Lib.hid hO3
        have c1 := hO3.c1
        have c2 := hO3.c2
        have hx3 : xb ≠ w3.heap.size := Nat.ne_of_lt hO3.lx
        have hkc3 : w.heap.size < w3.heap.size := Nat.lt_of_lt_of_le hkc hK3.size
        clear hS3 hB3 hBk hO3 hK3 HRD HB HS HK HO c0 hkc
        have hlN := numsOf_len sa n
        obtain ⟨f0, hf0⟩ := HO3.out.hs
        have HST := Lib.hid (rcx_start (sa := sa) hn HS3.out HY.out HBk.out HBL.out hf0)
        have HLN := Lib.hid hlN
        have HL : Hid (∀ x ∈ numsOf sa n, x < n) := fun x hx => by
          unfold numsOf at hx
          obtain ⟨j, hj, rfl⟩ := List.mem_map.1 hx
          have := HI.out.lt (by simpa using hj : j < n); omega
        have HL2 : Hid (∀ x ∈ numsOf sa n, x < 4294967296) := fun x hx => by have := HL.out x hx; omega
        have hDa : ¬ DB b q w3.heap.size := fun h => by have := HR.out.lt HS3.out _ h; omega
        have HDa := Lib.hid hDa
        have hsa : sb' ≠ w3.heap.size := Nat.ne_of_lt HO3.out.ls
        have hka : w.heap.size ≠ w3.heap.size := Nat.ne_of_lt hkc3
        have HWK : Hid (w.heap.size ≤ w.heap.size ∧ w.heap.size ≤ w3.heap.size) := ⟨Nat.le_refl _, Nat.le_of_lt hkc3⟩
        have HFIN : Hid (∀ wr w' v, Kept (fun x _ => DB b q x ∨ x = w.heap.size ∨ x = w3.heap.size ∨ x = sb') w3 wr → Kept (fun x _ => DB b q x ∨ x = w.heap.size) wr w' → ErrOf v → RxcPost b q xb tb sb w (.returned v) w') := fun wr w' v h1 h2 h3 => by
          refine ⟨v, rfl, h3, (HKw.out.trans' h1 fun x o hx hh => ?_).trans' h2 fun x o hx hh => hh.elim .inl fun hh => by omega⟩
          rcases hh with hh | hh | hh | hh
          · exact .inl hh
          · omega
          · omega
          · exact .inr (.inr (.inr (HSB.out x hx hh)))
        have HEW : Hid (∀ wr, Kept (fun x _ => DB b q x ∨ x = w.heap.size ∨ x = w3.heap.size ∨ x = sb') w3 wr → Errs lo wr) := fun wr h1 => by
          have hE3 := HEX.out _ HKw.out
          refine hE3.kept h1 fun x o hx hh => ?_
          rcases hh with (hh | hh) | hh | hh | hh
          · omega
          · omega
          · omega
          · omega
          · rcases HWH.out with ⟨_, e2⟩ | ⟨_, e2⟩ <;> omega
        have hkl : lo ≤ w.heap.size := hlw
        clear hDa hf0 hlN HS3 HBk HO3 HKw HWH HOLD HS0 HDx HDt HDs HI HT HDt' HY HEX HTB HSB HWK HE
        go_wp2_with fail
        generalize w3.alloc (.cells #[.slice (some ⟨sb', 0, none⟩) n c', .slice none 0 0] 70) = wd at *
        generalize w3.heap.size = ab at *
        generalize w.heap.size = k at *
        generalize numsOf sa n = l at *
        go_loopw [] (fun wr => RcxRel b q l k ab sb' c' w3 wr) (fun wr => lenAt wr ⟨ab, 0, none⟩)
        case atStart => exact HST.out
        case round =>
          clear HST
          obtain ⟨i, so', h, b', y, f, hi, HSO', c0, c1, f0', f1', HS, HCK, HH10, HB, HH, HK⟩ := hrel
          have hne := HCK.out.ne
          have hlt : i < l.length := by
            rcases Nat.lt_or_ge i l.length with h | h
            · exact h
            · exact (hne (List.drop_of_length_le h)).elim
          obtain rfl := HSO'.out hlt
          have hln := HLN.out
          have hfl := fit_le (l.drop so') 10
          have hfp : 1 ≤ fit 10 (l.drop so') := fit_pos hne
          have hdl : (l.drop so').length = l.length - so' := by rw [List.length_drop]
          rw [hdl] at hfl
          have habr := World.block_lt_of_cell? wr _ c0
          have hms : l.length - so' ≤ c' - so' := by omega
          have hmb : l.length - so' ≤ 1073741824 := by omega
          have hm0 : 0 < l.length - so' := by omega
          have HLA := Lib.hid (lenAt_eq c0)
          have z6 : IntKind.u64.wrap (n : Int) = (n : Int) := by rw [IntKind.wrap_u64]; omega
          have HLE := Lib.hid (ints_len ab 0 (l.length - so') (c' - so') (some ⟨sb', so', none⟩) wr hmb c0 c1)
          rcases HCK.out.step HH10.out (fun x hx => HL2.out x (List.mem_of_mem_drop hx)) with hcc | ⟨y', hyy, hcc⟩
          · have HRS := Lib.hid (fun q' => readSlice_cut b q h b' y (l.drop so') k sb' so' (l.length - so') (c' - so') n lo (wr.drewN q') (HR.out.kept HS.out ((Kept.refl (fun _ _ => False) wr).drewN q') fun _ _ _ h => h) hcc HH10.out (fun x hx => HL2.out x (List.mem_of_mem_drop hx)) HB.out.1 HB.out.2 HDk.out (HEW.out _ (HK.out.drewN q')) hkl hlb hlq)
            have HFX : Hid (∀ q' w' v, Kept (fun x _ => DB b q x ∨ x = k) (wr.drewN q') w' → ErrOf v → RxcPost b q xb tb sb w (.returned v) w') := fun q' w' v h1 h2 => HFIN.out (wr.drewN q') w' v (HK.out.drewN q') h1 h2
            unfold bufV at HRS
            generalize l.length - so' = m at *
            clear hne hdl HS HB HH HK HSO' hlt hi hln hfl hfp HCK hcc HFIN HEW HL HL2 HLN HDa HDs' HR HDk f0' f1'
            have y0 : (0 : Int) < (m : Int) := by omega
            go_wp2_with fail
            refine HLE.out.mono ?_
            rintro e w4 ⟨rfl, q', rfl⟩
            replace c0 : (wr.drewN q').cell? ⟨ab, 0, none⟩ = some (.slice (some ⟨sb', so', none⟩) m (c' - so')) := c0
            replace c1 : (wr.drewN q').cell? ⟨ab, 1, none⟩ = some (.slice none 0 0) := c1
            replace HRS := Lib.hid (HRS.out q')
            replace HFX := Lib.hid (HFX.out q')
            clear HLE
            generalize wr.drewN q' = w4 at *
            go_wp2_with fail
            refine HRS.out.mono ?_
            rintro e w5 ⟨x, v, rfl, ⟨a, rfl⟩, hK⟩
            have HQ2 := Lib.hid (HFX.out w5 _ hK ⟨a, rfl⟩)
            clear hK HFX HRS c0 c1
            go_wp2
            go_ret
            exact HQ2.out
          · have HRS := fun q' => readSlice_gen HR.out h b' y' (l.drop so') k sb' so' (c' - so') n (fun j => f (so' + j)) (wr.drewN q') (by rw [← hyy]; exact HR.out.kept HS.out ((Kept.refl (fun _ _ => False) wr).drewN q') fun _ _ _ h => h) HH10.out hne HB.out.1 HB.out.2 (fun j hj => by
              rw [hdl] at hj
              have h1 := HH.out (so' + j) (by omega)
              rw [Nat.zero_add] at h1
              exact h1) (fun x hx => HL.out x (List.mem_of_mem_drop hx)) hn (by omega) HDk.out HDs'.out hks
            rw [hdl] at HRS
            replace HRS := Lib.hid HRS
            unfold bufV at HRS
            have HSTEP : Hid (∀ (q' : Nat) (w4 w5 : World) (e : Ending) (so'' : Nat), RgPost (RB b q) (DB b q) y' (l.drop so') k sb' so' (l.length - so') (fun j => f (so' + j)) (wr.drewN q') e w4 → (fit 10 (l.drop so') < l.length - so' → so'' = so' + fit 10 (l.drop so')) → Grew w4 w5 →
                RcxRel b q l k ab sb' c' w3 ((w5.setCell ⟨ab, 0, none⟩ (.slice (some ⟨sb', so'', none⟩) (l.length - so' - fit 10 (l.drop so')) (c' - so' - fit 10 (l.drop so')))).setCell ⟨ab, 1, none⟩ (.slice none 0 0))) := fun q' w4 w5 e so'' hp hso h5 =>
              rcx_step (wr := wr.drewN q') hlt (by omega) HH10.out HL2.out hka hsa hks HDk.out HDa.out HDs'.out (by show (wr.cell? _).isSome = true; rw [c0]; rfl) (by show (wr.cell? _).isSome = true; rw [c1]; rfl) f0' f1' HH.out (HK.out.drewN q') hp hcc hso h5
            have hnS : Hid (∀ o, ¬ SR (DB b q) k sb' so' (l.length - so') ab o) := fun o hh => by
              rcases hh with (hh | hh) | hh
              · exact HDa.out hh
              · exact hka hh.symm
              · exact hsa hh.1.symm
            generalize l.length - so' = m at *
            generalize hKK : fit 10 (l.drop so') = K at *
            have HKK := Lib.hid hKK
            clear hKK hne hdl HS HB HH HK HSO' hlt hi hln HCK hcc hyy HFIN HEW
            have y0 : (0 : Int) < (m : Int) := by omega
            go_wp2_with fail
            refine HLE.out.mono ?_
            rintro e w4 ⟨rfl, q', rfl⟩
            replace c0 : (wr.drewN q').cell? ⟨ab, 0, none⟩ = some (.slice (some ⟨sb', so', none⟩) m (c' - so')) := c0
            replace c1 : (wr.drewN q').cell? ⟨ab, 1, none⟩ = some (.slice none 0 0) := c1
            replace f0' : (wr.drewN q').frozen? ⟨ab, 0, none⟩ = false := f0'
            replace f1' : (wr.drewN q').frozen? ⟨ab, 1, none⟩ = false := f1'
            replace habr : ab < (wr.drewN q').heap.size := habr
            replace HRS := Lib.hid (HRS.out q')
            replace HSTEP := Lib.hid (HSTEP.out q')
            clear HLE
            generalize wr.drewN q' = w4 at *
            go_wp2_with fail
            refine HRS.out.mono ?_
            rintro e w5 hp
            replace HSTEP := Lib.hid (fun w6 so'' => HSTEP.out w5 w6 _ so'' hp)
            have hK4 : Kept (SR (DB b q) k sb' so' m) w4 w5 := by obtain ⟨_, _, _, _, h⟩ := hp; exact h
            obtain ⟨he, _⟩ := hp
            rw [HKK.out] at he
            subst he
            replace c0 := (hK4.cell ab 0 habr (hnS.out 0)).trans c0
            replace c1 := (hK4.cell ab 1 habr (hnS.out 1)).trans c1
            replace f0' := (hK4.frozen ab 0 habr).trans f0'
            replace f1' := (hK4.frozen ab 1 habr).trans f1'
            replace habr := Nat.lt_of_lt_of_le habr hK4.size
            clear hK4 hnS HRS
            have HLE := Lib.hid (ints_len ab 0 m (c' - so') (some ⟨sb', so', none⟩) w5 hmb c0 c1)
            have HTA := Lib.hid (fun q => ints_slice_tail ab 0 m (c' - so') sb' so' K (w5.drewN q) hmb hfl hms c0)
            go_wp2_with fail
            refine HLE.out.mono ?_
            rintro e w6 ⟨rfl, q5, rfl⟩
            obtain ⟨so'', hso'', HTC⟩ := HTA.out q5
            replace HTC := Lib.hid HTC
            replace HSTEP := Lib.hid (fun w6 => HSTEP.out w6 so'' hso'')
            clear hso'' HTA HLE
            go_wp2_with fail
            refine HTC.out.mono ?_
            rintro e w6 ⟨rfl, hK6⟩
            have hK6' : Grew w5 w6 := ((Kept.refl _ w5).drewN q5).trans hK6
            replace HSTEP := Lib.hid (HSTEP.out w6 hK6')
            replace c0 := (hK6'.cell ab 0 habr (fun h => h)).trans c0
            replace c1 := (hK6'.cell ab 1 habr (fun h => h)).trans c1
            replace f0' := (hK6'.frozen ab 0 habr).trans f0'
            replace f1' := (hK6'.frozen ab 1 habr).trans f1'
            clear hK6 hK6' HTC
            have HME : Hid (lenAt ((w6.setCell ⟨ab, 0, none⟩ (.slice (some ⟨sb', so'', none⟩) (m - K) (c' - so' - K))).setCell ⟨ab, 1, none⟩ (.slice none 0 0)) ⟨ab, 0, none⟩ < m) := by
              show _ < _
              rw [lenAt_eq (p := some ⟨sb', so'', none⟩) (m := m - K) (c := c' - so' - K) (by rw [World.cell?_setCell_other _ _ _ _ (by simp), World.cell?_setCell_same _ _ _ c0])]
              omega
            go_wp2
            go_roundw
            case rel => exact HSTEP.out
            case measure => rw [HLA.out]; exact HME.out
end Go.Proofs.YtoebcbmkkhbldaaGreatDoor
