/- impl.Stream: the steps of its four loops, no walk in sight; (*Index).Bytes. -/
import Derived.Test.YtoebcbmkkhbldaaDoorQIxs
set_option linter.unusedVariables false
namespace Go.Proofs.YtoebcbmkkhbldaaDoor
open Go.RowKit Go.Mem Sais Go.Lib Go.Wire
set_option maxRecDepth 100000

theorem OL.tl {base : Nat} {l : List Int} {w : World} {v : Value} (h : OL base l w v) : TL l w v := by
  refine ⟨h.il, fun hl => ?_⟩
  rcases h.2 with ⟨_, h0⟩ | ⟨g, cap, cur, rfl, _, hg, _⟩
  · rw [iv_length] at h0
    exact (hl (List.length_eq_zero_iff.1 h0)).elim
  · exact ⟨g, 0, cap, cur, _, by rw [iv_length], hg⟩
theorem IxT.bytes {t : ByteArray} {w : World} {c : Nat} {d : Option Addr} {x tb sb : Nat} {sa : Nat → Int} (h : Own w x tb sb c t.size d) (h2 : Ix w x (chr t) t.size (.slice d t.size c) tb 0 c sb 0 c sa) : ByteV (chr t) t.size w (.slice d t.size c) := by
  rcases h.hd with rfl | ⟨rfl, hc⟩
  · refine .inr ⟨tb, 0, c, rfl, h.nc, fun j hj => ?_⟩
    rcases h2.t with ⟨e, _⟩ | ⟨_, _, h3⟩
    · omega
    · exact h3 j hj
  · have := h.nc
    exact .inl ⟨by omega, c, by rw [show t.size = 0 by omega]⟩
theorem str_of_bts (t : ByteArray) : (⟨(bts (chr t) t.size).toArray⟩ : ByteArray) = t := by
  rw [bts_chr]
/-- (*Index).Bytes -/
theorem index_Bytes (x : Nat) (dv : Value) (w : World) (c0 : w.cell? ⟨x, 0, none⟩ = some dv) :
    Calls Tryd.prog 9 #[.pointer (some ⟨x, 0, none⟩)] w fun e w' => e = .returned dv ∧ w = w' := by
  go_enter Tryd.func9, Tryd.ntmps9
  go_wp2
  go_ret
  exact ⟨rfl, rfl⟩
/-- The first loop: k texts are written. -/
def S1Rel (B : Nat) (ts : List ByteArray) (w : World) (fv iv : Value) (wr : World) : Prop := ∃ (k : Nat) (g : Option Nat) (l : List UInt8), k ≤ ts.length ∧ iv = .int .i64 (k : Nat) ∧ fv = .bool true ∧ Hid (WB B g l wr) ∧ Hid (Wrs (ts.take k) l) ∧ Hid (Grew w wr) ∧ Hid (∀ q, g = some q → w.heap.size ≤ q)
theorem s1_step {B k : Nat} {g g' : Option Nat} {ts : List ByteArray} {l a : List UInt8} {w w2 w3 : World} (hk : k < ts.length) (hB : w.heap.size ≤ B) (h2 : Grew w w2) (hg : ∀ q, g = some q → w.heap.size ≤ q) (hl : Wrs (ts.take k) l) (ha : Wr ts[k] a) (hW : WB B g' (l ++ a) w3) (hK : Kept (OB B g) w2 w3) (hg' : g' = g ∨ ∃ q, g' = some q ∧ w2.heap.size ≤ q) :
    S1Rel B ts w (.bool true) (.int .i64 ((k + 1 : Nat) : Int)) w3 := by
  refine ⟨k + 1, g', l ++ a, hk, rfl, rfl, hW, hl.take hk ha, h2.trans' hK fun x o hx hh => ?_, fun q hq => ?_⟩
  · rcases hh with hh | hh
    · omega
    · have := hg x hh.symm; omega
  · rcases hg' with rfl | ⟨q', rfl, hq'⟩
    · exact hg q hq
    · obtain rfl := Option.some.inj hq
      exact Nat.le_trans h2.size hq'
theorem s1_end {B k : Nat} {g : Option Nat} {ts : List ByteArray} {l : List UInt8} {w wr : World} (ht : ∀ t ∈ ts, t.size ≤ 1048576) (hk : k = ts.length) (hB : w.heap.size ≤ B) (hW : WB B g l wr) (hl : Wrs (ts.take k) l) (hg : ∀ q, g = some q → w.heap.size ≤ q) :
    ∃ q, Wrs ts l ∧ (0 < ts.length → RB B q l wr) ∧ w.heap.size ≤ q ∧ q < wr.heap.size ∧ B < wr.heap.size := by
  subst hk
  rw [List.take_length] at hl
  by_cases h0 : 0 < ts.length
  · obtain ⟨q, hq, hR⟩ := hW.rb (hl.ne ht h0)
    exact ⟨q, hl, fun _ => hR, hg q hq, (hW.lt.2 q hq).1, hW.lt.1⟩
  · exact ⟨B, hl, fun h => (h0 h).elim, hB, hW.lt.1, hW.lt.1⟩
/-- The second loop: k indexes are made. -/
def S2Rel (wa : World) (m : Nat) (lv iv : Value) (wr : World) : Prop := ∃ (k : Nat) (X TB SB : Nat → Nat), k ≤ m ∧ iv = .int .i64 (k : Nat) ∧ Hid (OV 35 wa.heap.size (pv X k) wr lv) ∧ Hid (Ixs wr k wa.heap.size lv.ownBlock X TB SB (fun _ => ⟨#[]⟩)) ∧ Hid (Grew wa wr)
theorem fset_const {α : Type} (a : α) (k : Nat) : fset (fun _ => a) k a = fun _ => a := by
  funext i; unfold fset; split <;> rfl
theorem s2_step {wa wr w1 w' : World} {m k xb sb : Nat} {X TB SB : Nat → Nat} {lv v' : Value} {o : Obj} (hk : k < m) (hO : OV 35 wa.heap.size (pv X k) wr lv) (hI : Ixs wr k wa.heap.size lv.ownBlock X TB SB (fun _ => ⟨#[]⟩)) (hG : Grew wa wr)
    (hW : Own w1 xb sb sb 0 0 none) (h1 : wr.heap.size ≤ xb) (h2 : wr.heap.size ≤ sb) (hK : Grew wr w1) (ho : OV 35 wa.heap.size (pv X k ++ [.pointer (some ⟨xb, 0, none⟩)]) w' v') (hG' : Grew wa w') (hgr : (w1.alloc o).grownBy w' lv.ownBlock) (hb : v'.ownBlock = lv.ownBlock ∨ ∃ q, v'.ownBlock = some q ∧ w1.heap.size ≤ q) :
    S2Rel wa m v' (.int .i64 ((k + 1 : Nat) : Int)) w' := by
  have a := hI.snoc hK (IxT.nil hW) h1 h2 h2 hG.size fun q hq => (World.ownsRow.lt hO q hq).2
  rw [fset_const] at a
  have b := (a.grew ((Kept.refl _ w1 : Grew w1 w1).alloc o)).grown hgr
  refine ⟨k + 1, fset X k xb, fset TB k sb, fset SB k sb, hk, rfl, by rw [pv_snoc]; exact ho, ⟨b.ix, b.sep, b.lo, (a.row hb).off⟩, hG'⟩
/-- The third loop: i texts are read. -/
def S3Rel (B q m lo nb : Nat) (g : Option Nat) (X : Nat → Nat) (ts : List ByteArray) (js : List Nat) (lv : Value) (w : World) (fv iv : Value) (wr : World) : Prop := ∃ (i : Nat) (TB SB : Nat → Nat) (rest : List UInt8), i ≤ ts.length ∧ iv = .int .i64 (i : Nat) ∧ fv = .bool true ∧
  Hid (Wrs (ts.drop i) rest) ∧ Hid (0 < ts.length → RB B q rest wr) ∧ Hid (Ixs wr m lo g X TB SB (lastT ts js i)) ∧ Hid (VL (pv X m) wr lv) ∧ Hid (Grew w wr) ∧ Hid (nb ≤ wr.heap.size)
theorem VL.block {l : List Value} {w w' : World} {a : Option Addr} {n c : Nat} (h : VL l w (.slice a n c)) (hb : ∀ x, a = some x → w'.heap[x.block]? = w.heap[x.block]?) : VL l w' (.slice a n c) := by
  rcases h with h | ⟨b, o, c', h1, h2, h3⟩
  · exact .inl h
  · injection h1 with e1 e2 e3
    subst e1
    exact .inr ⟨b, o, c', by rw [e2, e3], h2, fun j hj => (World.cell?_of_block (a := ⟨b, o + j, none⟩) (hb ⟨b, o, none⟩ rfl)).trans (h3 j hj)⟩
theorem s3_step {B q m lo nb i j : Nat} {a0 : Option Addr} {n0 c0 : Nat} {X TB SB : Nat → Nat} {ts : List ByteArray} {js : List Nat} {rest : List UInt8} {sa : Nat → Int} {w wr w' : World} (hi : i < ts.length) (hjs : js.getD i 0 = j) (hj : j < m)
    (hB : w.heap.size ≤ B) (hq : w.heap.size ≤ q) (hB2 : B < lo) (hq2 : q < lo) (hlw : w.heap.size ≤ lo) (ha : ∀ x, a0 = some x → lo ≤ x.block ∧ x.block < nb) (hln : lo ≤ nb) (hz : nb ≤ wr.heap.size)
    (hr : Wrs (ts.drop (i + 1)) rest) (hI : Ixs wr m lo ((Value.slice a0 n0 c0).ownBlock) X TB SB (lastT ts js i)) (hV : VL (pv X m) wr (.slice a0 n0 c0)) (hG : Grew w wr) (hp : IrPost (RB B q) (DB B q) rest (X j) (TB j) (SB j) ts[i].size (chr ts[i]) sa wr (.returned .nilIface) w') :
    S3Rel B q m lo nb ((Value.slice a0 n0 c0).ownBlock) X ts js (.slice a0 n0 c0) w (.bool true) (.int .i64 ((i + 1 : Nat) : Int)) w' := by
  obtain ⟨_, tb, sb, c, d, hO, hX, hR, hK, hw⟩ := hp
  have hl : lo ≤ wr.heap.size := Nat.le_trans hln hz
  have hob : ∀ x, a0 = some x → (Value.slice a0 n0 c0).ownBlock = some x.block := fun x hx => by subst hx; rfl
  have hkeep : ∀ y, y < wr.heap.size → y ≠ B → y ≠ q → ¬ Tri X TB SB j y → w'.heap[y]? = wr.heap[y]? := fun y hy h1 h2 h3 => hK.block y hy fun o hh => by
    rcases hh with (hh | hh) | hh | hh | hh
    · exact h1 hh
    · exact h2 hh
    · exact h3 (.inl hh)
    · exact h3 (.inr (.inl hh))
    · exact h3 (.inr (.inr hh))
  refine ⟨i + 1, fset TB j tb, fset SB j sb, rest, hi, rfl, rfl, hr, fun _ => hR, ?_, ?_, hG.trans' hK fun x o hx hh => ?_, Nat.le_trans hz hK.size⟩
  · have e : lastT ts js (i + 1) = fset (lastT ts js i) j ts[i] := by
      show fset _ _ _ = _
      rw [hjs]; simp [hi]
    rw [e]
    refine hI.read hj (fun i2 x h1 h2 h3 => hkeep x (hI.lt h1 h3) ?_ ?_ (hI.sep i2 j x h1 hj h2 h3)) hK.size ⟨c, d, sa, hO, hX⟩ hw hl ?_
    · have := hI.lo i2 x h1 h3; omega
    · have := hI.lo i2 x h1 h3; omega
    · intro y hy
      cases a0 with
      | none => cases hy
      | some x => obtain rfl := Option.some.inj hy; exact Nat.lt_of_lt_of_le (ha x rfl).2 hz
  · refine hV.block fun x hx => hkeep x.block (Nat.lt_of_lt_of_le (ha x hx).2 hz) ?_ ?_ fun h3 => hI.off j _ hj h3 (hob x hx).symm
    · have := (ha x hx).1; omega
    · have := (ha x hx).1; omega
  · rcases hh with (hh | hh) | hh | hh | hh
    · omega
    · omega
    · have := hI.lo j x hj (.inl hh); omega
    · have := hI.lo j x hj (.inr (.inl hh)); omega
    · have := hI.lo j x hj (.inr (.inr hh)); omega
/-- The fourth loop: k indexes are looked up in. -/
def S4Rel (wc : World) (m : Nat) (s : ByteArray) (T : Nat → ByteArray) (ov dv iv : Value) (wr : World) : Prop := ∃ (k : Nat) (vs : List Value), k ≤ m ∧ iv = .int .i64 (k : Nat) ∧ vs.length = k ∧ Hid (OV 26 wc.heap.size vs wr ov) ∧ Hid (OV 9 wc.heap.size (sv ((List.range k).map T)) wr dv) ∧ Hid (LL2 s T vs wr) ∧ Hid (Grew wc wr)
theorem s4_step {wc wr w3 w4 w5 : World} {m k : Nat} {s : ByteArray} {T : Nat → ByteArray} {vs : List Value} {ov dv x v4 v5 : Value} {l : List Int} {o1 o2 : Obj} (hk : k < m) (hvs : vs.length = k) (HO : OV 26 wc.heap.size vs wr ov) (HD : OV 9 wc.heap.size (sv ((List.range k).map T)) wr dv) (HL : LL2 s T vs wr)
    (h3 : Grew wr w3) (hT : TL l w3 x) (hp : l.Perm (ints (places (T k) s))) (ho4 : OV 26 wc.heap.size (vs ++ [x]) w4 v4) (hgr4 : (w3.alloc o1).grownBy w4 ov.ownBlock)
    (ho5 : OV 9 wc.heap.size (sv ((List.range k).map T ++ [T k])) w5 v5) (hG5 : Grew wc w5) (hgr5 : (w4.alloc o2).grownBy w5 dv.ownBlock) (hd4 : OV 9 wc.heap.size (sv ((List.range k).map T)) w4 dv) : S4Rel wc m s T v4 v5 (.int .i64 ((k + 1 : Nat) : Int)) w5 := by
  have e1 : 26 ≠ 3 := by decide
  have e2 : 9 ≠ 3 := by decide
  have e3 : 26 ≠ 9 := by decide
  have hk1 : Grew w3 (w3.alloc o1) := (Kept.refl _ w3).alloc _
  have hk2 : Grew w4 (w4.alloc o2) := (Kept.refl _ w4).alloc _
  have a := HL.grew h3
  subst hvs
  have b := ((a.snoc hT hp).grew hk1).grown2 ((HO.grew h3).grew hk1) e1 hgr4
  have c := (b.grew hk2).grown2 (hd4.grew hk2) e2 hgr5
  have d := (ho4.grew hk2).grown2 (hd4.grew hk2) e3 hgr5
  refine ⟨vs.length + 1, vs ++ [x], hk, rfl, by simp, d, ?_, c, hG5⟩
  rw [List.range_succ, List.map_append]; exact ho5
theorem s4_mid {wc wr w3 w4 : World} {k : Nat} {T : Nat → ByteArray} {vs : List Value} {ov dv : Value} {o1 : Obj} (HO : OV 26 wc.heap.size vs wr ov) (HD : OV 9 wc.heap.size (sv ((List.range k).map T)) wr dv) (h3 : Grew wr w3) (hgr4 : (w3.alloc o1).grownBy w4 ov.ownBlock) : OV 9 wc.heap.size (sv ((List.range k).map T)) w4 dv := by
  have hk1 : Grew w3 (w3.alloc o1) := (Kept.refl _ w3).alloc _
  exact ((HD.grew h3).grew hk1).grown2 ((HO.grew h3).grew hk1) (by decide) hgr4
/-- What impl.Stream hands back. -/
def StPost (ts : List ByteArray) (js : List Nat) (m : Nat) (s : ByteArray) (w : World) (e : Ending) (w' : World) : Prop :=
  ∃ vs v1 v2, e = .returned (.tuple #[v1, v2, .bool true]) ∧ VL vs w' v1 ∧ vs.length = m ∧ LL2 s (lastT ts js ts.length) vs w' ∧ TS ((List.range m).map (lastT ts js ts.length)) w' v2 ∧ Grew w w'
end Go.Proofs.YtoebcbmkkhbldaaDoor
