/- A list of indexes in memory, each one over its own text; what is written for a list of texts. -/
import Derived.Test.YtoebcbmkkhbldaaDoorQRst
import Derived.Test.YtoebcbmkkhbldaaDoorQLkr
import Derived.Test.YtoebcbmkkhbldaaDoorQLks
import Derived.Test.YtoebcbmkkhbldaaDoorQCom
import Derived.Maps.AppendAt
set_option linter.unusedVariables false
namespace Go.Proofs.YtoebcbmkkhbldaaDoor
open Go.RowKit Go.Mem Sais Go.Lib Go.Wire
set_option maxRecDepth 100000

theorem Hold.block {k : IntKind} {w w' : World} {b off n : Nat} {f : Nat → Int} (h : Hold k w b off n f) (hb : w'.heap[b]? = w.heap[b]?) : Hold k w' b off n f := fun j hj => by
  rw [World.cell?_of_block (a := ⟨b, off + j, none⟩) hb, World.frozen?_of_block (a := ⟨b, off + j, none⟩) hb]; exact h j hj
theorem Rd.block {k : IntKind} {w w' : World} {b off n : Nat} {f : Nat → Int} (h : Rd k w b off n f) (hb : w'.heap[b]? = w.heap[b]?) : Rd k w' b off n f := fun j hj => by
  rw [World.cell?_of_block (a := ⟨b, off + j, none⟩) hb]; exact h j hj
theorem Own.block {w w' : World} {xb tb sb c n : Nat} {d : Option Addr} (h : Own w xb tb sb c n d) (hx : w'.heap[xb]? = w.heap[xb]?) (ht : w'.heap[tb]? = w.heap[tb]?) (hs : w'.heap[sb]? = w.heap[sb]?) (hz : w.heap.size ≤ w'.heap.size) : Own w' xb tb sb c n d := by
  obtain ⟨f, hf, hfl⟩ := h.ht
  obtain ⟨f', hf'⟩ := h.hs
  exact ⟨(World.cell?_of_block (a := ⟨xb, 0, none⟩) hx).trans h.c0, (World.cell?_of_block (a := ⟨xb, 1, none⟩) hx).trans h.c1, (World.cell?_of_block (a := ⟨xb, 2, none⟩) hx).trans h.c2, fun o ho => (World.frozen?_of_block (a := ⟨xb, o, none⟩) hx).trans (h.f o ho), h.hd, ⟨f, Hold.block hf ht, hfl⟩, ⟨f', Hold.block hf' hs⟩, h.nc, h.cb, Nat.lt_of_lt_of_le h.lx hz, Nat.lt_of_lt_of_le h.lt hz, Nat.lt_of_lt_of_le h.ls hz, h.n1, h.n2, h.n3⟩
theorem Ix.block {w w' : World} {xb : Nat} {T : Nat → Nat} {n : Nat} {dv : Value} {tb tx tc sb so sc : Nat} {sa : Nat → Int} (h : Ix w xb T n dv tb tx tc sb so sc sa) (hx : w'.heap[xb]? = w.heap[xb]?) (ht : w'.heap[tb]? = w.heap[tb]?) (hs : w'.heap[sb]? = w.heap[sb]?) : Ix w' xb T n dv tb tx tc sb so sc sa := by
  refine ⟨(World.cell?_of_block (a := ⟨xb, 0, none⟩) hx).trans h.c0, (World.cell?_of_block (a := ⟨xb, 1, none⟩) hx).trans h.c1, (World.cell?_of_block (a := ⟨xb, 2, none⟩) hx).trans h.c2, h.hn, h.hT, h.sc, ?_, Rd.block h.s hs, h.isa⟩
  rcases h.t with h | ⟨h1, h2, h3⟩
  · exact .inl h
  · exact .inr ⟨h1, h2, Rd.block h3 ht⟩
/-- An index at block x, its rows at tb and sb, over the text t. -/
def IxT (t : ByteArray) (w : World) (x tb sb : Nat) : Prop := ∃ c d sa, Own w x tb sb c t.size d ∧ Ix w x (chr t) t.size (.slice d t.size c) tb 0 c sb 0 c sa
theorem IxT.block {t : ByteArray} {w w' : World} {x tb sb : Nat} (h : IxT t w x tb sb) (hx : w'.heap[x]? = w.heap[x]?) (ht : w'.heap[tb]? = w.heap[tb]?) (hs : w'.heap[sb]? = w.heap[sb]?) (hz : w.heap.size ≤ w'.heap.size) : IxT t w' x tb sb := by
  obtain ⟨c, d, sa, h1, h2⟩ := h
  exact ⟨c, d, sa, h1.block hx ht hs hz, h2.block hx ht hs⟩
theorem IxT.nil {w : World} {xb sb : Nat} (h : Own w xb sb sb 0 0 none) : IxT ⟨#[]⟩ w xb sb sb :=
  ⟨0, none, fun _ => 0, h, ⟨h.c0, h.c1, h.c2, Nat.zero_le _, fun i hi => (Nat.not_lt_zero _ hi).elim, Nat.le_refl _, .inl ⟨rfl, none, 0, rfl⟩, fun j hj => (Nat.not_lt_zero _ hj).elim, ⟨fun k hk => (Nat.not_lt_zero _ hk).elim, fun k hk => (Nat.not_lt_zero _ hk).elim, fun x y a b _ hy => (Nat.not_lt_zero _ hy).elim⟩⟩⟩
/-- A function, changed at one place. -/
def fset {α : Type} (f : Nat → α) (j : Nat) (v : α) : Nat → α := fun i => if i = j then v else f i
theorem fset_same {α : Type} (f : Nat → α) (j : Nat) (v : α) : fset f j v j = v := if_pos rfl
theorem fset_other {α : Type} (f : Nat → α) {i j : Nat} (v : α) (h : i ≠ j) : fset f j v i = f i := if_neg h
def Tri (X TB SB : Nat → Nat) (j x : Nat) : Prop := x = X j ∨ x = TB j ∨ x = SB j
/-- m indexes above block lo, apart from each other and from the row g. -/
structure Ixs (w : World) (m lo : Nat) (g : Option Nat) (X TB SB : Nat → Nat) (TX : Nat → ByteArray) : Prop where
  ix : ∀ j, j < m → IxT (TX j) w (X j) (TB j) (SB j)
  sep : ∀ i j x, i < m → j < m → i ≠ j → Tri X TB SB i x → ¬ Tri X TB SB j x
  lo : ∀ j x, j < m → Tri X TB SB j x → lo ≤ x
  off : ∀ j x, j < m → Tri X TB SB j x → some x ≠ g
section
variable {w w' : World} {m lo : Nat} {g g' : Option Nat} {X TB SB : Nat → Nat} {TX : Nat → ByteArray}
theorem Ixs.none (w : World) (lo : Nat) (g : Option Nat) (X TB SB : Nat → Nat) (TX : Nat → ByteArray) : Ixs w 0 lo g X TB SB TX := ⟨fun j hj => (Nat.not_lt_zero _ hj).elim, fun i j x hi => (Nat.not_lt_zero _ hi).elim, fun j x hj => (Nat.not_lt_zero _ hj).elim, fun j x hj => (Nat.not_lt_zero _ hj).elim⟩
theorem Ixs.lt (h : Ixs w m lo g X TB SB TX) {j x : Nat} (hj : j < m) (hx : Tri X TB SB j x) : x < w.heap.size := by
  obtain ⟨c, d, sa, h1, _⟩ := h.ix j hj
  rcases hx with rfl | rfl | rfl
  · exact h1.lx
  · exact h1.lt
  · exact h1.ls
theorem Ixs.block (h : Ixs w m lo g X TB SB TX) (hb : ∀ j x, j < m → Tri X TB SB j x → w'.heap[x]? = w.heap[x]?) (hz : w.heap.size ≤ w'.heap.size) : Ixs w' m lo g X TB SB TX :=
  ⟨fun j hj => (h.ix j hj).block (hb j _ hj (.inl rfl)) (hb j _ hj (.inr (.inl rfl))) (hb j _ hj (.inr (.inr rfl))) hz, h.sep, h.lo, h.off⟩
theorem Ixs.grew (h : Ixs w m lo g X TB SB TX) (hk : Grew w w') : Ixs w' m lo g X TB SB TX := h.block (fun j x hj hx => hk.block x (h.lt hj hx) fun _ h => h) hk.size
theorem Ixs.grown (h : Ixs w m lo g X TB SB TX) (hk : w.grownBy w' g) : Ixs w' m lo g X TB SB TX := h.block (fun j x hj hx => hk.block x (h.lt hj hx) (h.off j x hj hx)) hk.size
theorem Ixs.row (h : Ixs w m lo g X TB SB TX) (hg : g' = g ∨ ∃ q, g' = some q ∧ w.heap.size ≤ q) : Ixs w m lo g' X TB SB TX := by
  refine ⟨h.ix, h.sep, h.lo, fun j x hj hx => ?_⟩
  rcases hg with rfl | ⟨q, rfl, hq⟩
  · exact h.off j x hj hx
  · intro e
    have := Option.some.inj e
    have := h.lt hj hx
    omega
/-- One more. -/
theorem Ixs.snoc (h : Ixs w m lo g X TB SB TX) {xb tb sb : Nat} {t : ByteArray} (hk : Grew w w') (hx : IxT t w' xb tb sb) (h1 : w.heap.size ≤ xb) (h2 : w.heap.size ≤ tb) (h3 : w.heap.size ≤ sb) (hl : lo ≤ w.heap.size) (hg : ∀ q, g = some q → q < w.heap.size) :
    Ixs w' (m + 1) lo g (fset X m xb) (fset TB m tb) (fset SB m sb) (fset TX m t) := by
  have hold : ∀ j x, j < m → Tri (fset X m xb) (fset TB m tb) (fset SB m sb) j x → Tri X TB SB j x := fun j x hj hh => by
    unfold Tri at *
    rw [fset_other _ _ (by omega), fset_other _ _ (by omega), fset_other _ _ (by omega)] at hh; exact hh
  have hnew : ∀ x, Tri (fset X m xb) (fset TB m tb) (fset SB m sb) m x → w.heap.size ≤ x := fun x hh => by
    unfold Tri at hh
    rw [fset_same, fset_same, fset_same] at hh
    rcases hh with rfl | rfl | rfl <;> assumption
  have hw := h.grew hk
  refine ⟨fun j hj => ?_, fun i j x hi hj hij ha hb => ?_, fun j x hj hx => ?_, fun j x hj hx => ?_⟩
  · by_cases e : j = m
    · subst e; rw [fset_same, fset_same, fset_same, fset_same]; exact hx
    · rw [fset_other _ _ e, fset_other _ _ e, fset_other _ _ e, fset_other _ _ e]; exact hw.ix j (by omega)
  · by_cases e : i = m
    · subst e
      have a := hnew x ha
      have b := h.lt (show j < i by omega) (hold j x (by omega) hb)
      omega
    · by_cases e2 : j = m
      · subst e2
        have a := hnew x hb
        have b := h.lt (show i < j by omega) (hold i x (by omega) ha)
        omega
      · exact h.sep i j x (by omega) (by omega) hij (hold i x (by omega) ha) (hold j x (by omega) hb)
  · by_cases e : j = m
    · subst e; exact Nat.le_trans hl (hnew x hx)
    · exact h.lo j x (by omega) (hold j x (by omega) hx)
  · by_cases e : j = m
    · subst e
      intro e3
      have a := hnew x hx
      have b := hg x e3.symm
      omega
    · exact h.off j x (by omega) (hold j x (by omega) hx)
/-- One is read into. -/
theorem Ixs.read (h : Ixs w m lo g X TB SB TX) {j tb sb : Nat} {t : ByteArray} (hj : j < m) (hb : ∀ i x, i < m → i ≠ j → Tri X TB SB i x → w'.heap[x]? = w.heap[x]?) (hz : w.heap.size ≤ w'.heap.size) (hx : IxT t w' (X j) tb sb)
    (hw : tb = TB j ∧ sb = SB j ∨ w.heap.size < tb ∧ w.heap.size < sb) (hl : lo ≤ w.heap.size) (hg : ∀ q, g = some q → q < w.heap.size) :
    Ixs w' m lo g X (fset TB j tb) (fset SB j sb) (fset TX j t) := by
  have hold : ∀ i x, i ≠ j → Tri X (fset TB j tb) (fset SB j sb) i x → Tri X TB SB i x := fun i x hi hh => by
    unfold Tri at *
    rw [fset_other _ _ hi, fset_other _ _ hi] at hh; exact hh
  have hnew : ∀ x, Tri X (fset TB j tb) (fset SB j sb) j x → Tri X TB SB j x ∨ w.heap.size < x := fun x hh => by
    unfold Tri at *
    rw [fset_same, fset_same] at hh
    rcases hw with ⟨rfl, rfl⟩ | ⟨h1, h2⟩
    · exact .inl hh
    · rcases hh with rfl | rfl | rfl
      · exact .inl (.inl rfl)
      · exact .inr h1
      · exact .inr h2
  refine ⟨fun i hi => ?_, fun i i2 x hi hi2 hii ha hb' => ?_, fun i x hi hx => ?_, fun i x hi hx => ?_⟩
  · by_cases e : i = j
    · subst e; rw [fset_same, fset_same, fset_same]; exact hx
    · rw [fset_other _ _ e, fset_other _ _ e, fset_other _ _ e]
      exact (h.ix i hi).block (hb i _ hi e (.inl rfl)) (hb i _ hi e (.inr (.inl rfl))) (hb i _ hi e (.inr (.inr rfl))) hz
  · by_cases e : i = j
    · subst e
      have b := hold i2 x (by omega) hb'
      rcases hnew x ha with a | a
      · exact h.sep i i2 x hi hi2 hii a b
      · have := h.lt hi2 b; omega
    · have a := hold i x e ha
      by_cases e2 : i2 = j
      · subst e2
        rcases hnew x hb' with b | b
        · exact h.sep i i2 x hi hi2 hii a b
        · have := h.lt hi a; omega
      · exact h.sep i i2 x hi hi2 hii a (hold i2 x e2 hb')
  · by_cases e : i = j
    · subst e
      rcases hnew x hx with a | a
      · exact h.lo i x hi a
      · omega
    · exact h.lo i x hi (hold i x e hx)
  · by_cases e : i = j
    · subst e
      rcases hnew x hx with a | a
      · exact h.off i x hi a
      · intro e3
        have := hg x e3.symm
        omega
    · exact h.off i x hi (hold i x e hx)
end
/-- Their pointers. -/
def pv (X : Nat → Nat) (m : Nat) : List Value := (List.range m).map fun j => .pointer (some ⟨X j, 0, none⟩)
theorem pv_length (X : Nat → Nat) (m : Nat) : (pv X m).length = m := by simp [pv]
theorem pv_snoc (X : Nat → Nat) (m x : Nat) : pv (fset X m x) (m + 1) = pv X m ++ [.pointer (some ⟨x, 0, none⟩)] := by
  unfold pv
  rw [List.range_succ, List.map_append, List.map_singleton, fset_same]
  congr 1
  refine List.map_congr_left fun j hj => ?_
  rw [fset_other _ _ (by have := List.mem_range.1 hj; omega)]
theorem pv_get (X : Nat → Nat) (m j : Nat) (h : j < (pv X m).length) : (pv X m)[j] = .pointer (some ⟨X j, 0, none⟩) := by simp [pv]
/-- What is written for a text; for some texts, one behind the other. -/
def Wr (t : ByteArray) (l : List UInt8) : Prop := ∃ sa, IsSA (chr t) t.size sa ∧ l = wireS t sa
def Wrs : List ByteArray → List UInt8 → Prop
  | [], l => l = []
  | t :: ts, l => ∃ a b, Wr t a ∧ Wrs ts b ∧ l = a ++ b
theorem Wrs.snoc : ∀ {ts : List ByteArray} {l a : List UInt8} {t : ByteArray}, Wrs ts l → Wr t a → Wrs (ts ++ [t]) (l ++ a)
  | [], l, a, t, h, k => by
    obtain rfl : l = [] := h
    exact ⟨a, [], k, rfl, by simp⟩
  | x :: ts, l, a, t, ⟨b, c, h1, h2, h3⟩, k => ⟨b, c ++ a, h1, h2.snoc k, by rw [h3, List.append_assoc]⟩
theorem Wr.len {t : ByteArray} {l : List UInt8} (h : Wr t l) (ht : t.size ≤ 1048576) : l.length ≤ 16777226 ∧ 10 ≤ l.length := by
  obtain ⟨sa, h1, rfl⟩ := h
  have := wireS_len t sa (by omega) h1
  omega
theorem Wrs.len : ∀ {ts : List ByteArray} {l : List UInt8}, Wrs ts l → (∀ t ∈ ts, t.size ≤ 1048576) → l.length ≤ ts.length * 16777226 ∧ 10 * ts.length ≤ l.length
  | [], l, h, _ => by
    obtain rfl : l = [] := h
    simp
  | t :: ts, l, ⟨a, b, h1, h2, h3⟩, ht => by
    have e1 := h1.len (ht t (by simp))
    have e2 := Wrs.len h2 fun x hx => ht x (by simp [hx])
    rw [h3, List.length_append, List.length_cons]; omega
theorem Wrs.ne {ts : List ByteArray} {l : List UInt8} (h : Wrs ts l) (ht : ∀ t ∈ ts, t.size ≤ 1048576) (h0 : 0 < ts.length) : l ≠ [] := fun e => by
  have := h.len ht
  rw [e] at this; simp at this; omega
theorem Wrs.drop {ts : List ByteArray} {l : List UInt8} {i : Nat} (h : Wrs (ts.drop i) l) (hi : i < ts.length) : ∃ a b, Wr ts[i] a ∧ Wrs (ts.drop (i + 1)) b ∧ l = a ++ b := by
  rw [List.drop_eq_getElem_cons hi] at h; exact h
theorem Wrs.take {ts : List ByteArray} {l a : List UInt8} {i : Nat} (h : Wrs (ts.take i) l) (hi : i < ts.length) (k : Wr ts[i] a) : Wrs (ts.take (i + 1)) (l ++ a) := by
  rw [List.take_succ_eq_append_getElem hi]; exact h.snoc k
/-- The texts of the indexes when i of the texts are read. -/
def lastT (ts : List ByteArray) (js : List Nat) : Nat → (Nat → ByteArray)
  | 0 => fun _ => ⟨#[]⟩
  | i + 1 => fset (lastT ts js i) (js.getD i 0) (ts.getD i ⟨#[]⟩)
theorem lastT_size {ts : List ByteArray} {B : Nat} (ht : ∀ t ∈ ts, t.size ≤ B) (js : List Nat) : ∀ (i j : Nat), (lastT ts js i j).size ≤ B
  | 0, j => Nat.zero_le _
  | i + 1, j => by
    unfold lastT fset
    split
    · by_cases h : i < ts.length
      · have := ht ts[i] (List.getElem_mem h)
        simpa [h] using this
      · rw [List.getD_eq_getElem?_getD, List.getElem?_eq_none (by omega)]; exact Nat.zero_le _
    · exact lastT_size ht js i j
/-- Lists of places, one for each text. -/
def LL2 (s : ByteArray) (T : Nat → ByteArray) (vs : List Value) (w : World) : Prop := ∀ j (h : j < vs.length), ∃ l, TL l w vs[j] ∧ l.Perm (ints (places (T j) s))
theorem LL2.snoc {s : ByteArray} {T : Nat → ByteArray} {vs : List Value} {w : World} {x : Value} {l : List Int} (h : LL2 s T vs w) (hx : TL l w x) (hp : l.Perm (ints (places (T vs.length) s))) : LL2 s T (vs ++ [x]) w := by
  intro j h1
  by_cases e : j < vs.length
  · obtain ⟨l', a, b⟩ := h j e
    exact ⟨l', by rw [List.getElem_append_left e]; exact a, b⟩
  · have e2 : j = vs.length := by rw [List.length_append, List.length_singleton] at h1; omega
    subst e2
    exact ⟨l, by simpa using hx, hp⟩
theorem LL2.grew {s : ByteArray} {T : Nat → ByteArray} {vs : List Value} {w w' : World} (h : LL2 s T vs w) (hk : Grew w w') : LL2 s T vs w' := fun j hj => by
  obtain ⟨l, a, b⟩ := h j hj
  exact ⟨l, a.grew hk, b⟩
/-- Rows of other types are left by an append. -/
theorem TL.grown2 {l : List Int} {w w' : World} {x ov : Value} {base : Nat} {e : TypeId} {vs : List Value} (h : TL l w x) (ho : OV e base vs w ov) (he : e ≠ 3) (hg : w.grownBy w' ov.ownBlock) : TL l w' x := by
  by_cases hl : l = []
  · subst hl
    obtain ⟨a, c, rfl⟩ := h.1.shape
    exact ⟨IL.nil _ _, fun h => (h rfl).elim⟩
  · obtain ⟨b, o, c, cs, fr, h1, h2⟩ := h.2 hl
    have hb : b < w.heap.size := (Array.getElem?_eq_some_iff.1 h2).1
    have hne : some b ≠ ov.ownBlock := by
      intro e
      rcases ho.2 with ⟨rfl, _⟩ | ⟨g, cap, cur, rfl, _, hgc, _⟩
      · simp [Value.ownBlock] at e
      · simp [Value.ownBlock] at e
        subst e
        rw [hgc] at h2
        simp at h2
        exact he h2.2.1
    have hbl := hg.block b hb hne
    refine ⟨?_, fun _ => ⟨b, o, c, cs, fr, h1, hbl.trans h2⟩⟩
    have h3 := h.1
    obtain ⟨b', o', c', h4, h5, h6⟩ := h3.cells (by rcases l with _ | _; exact (hl rfl).elim; simp)
    rw [h1] at h4
    injection h4 with e1 e2 e3
    injection e1 with e1
    injection e1 with e1 e1'
    subst e1 e1' e3
    rw [h1]
    exact IL.mk h5 fun j hj => (World.cell?_of_block (a := ⟨b, o + j, none⟩) hbl).trans (h6 j hj)
theorem LL2.grown2 {s : ByteArray} {T : Nat → ByteArray} {vs us : List Value} {w w' : World} {ov : Value} {base : Nat} {e : TypeId} (h : LL2 s T vs w) (ho : OV e base us w ov) (he : e ≠ 3) (hg : w.grownBy w' ov.ownBlock) : LL2 s T vs w' := fun j hj => by
  obtain ⟨l, a, b⟩ := h j hj
  exact ⟨l, a.grown2 ho he hg, b⟩
theorem OV.grown2 {e e' : TypeId} {base base' : Nat} {l l' : List Value} {w w' : World} {v v' : Value} (h : OV e base l w v) (h' : OV e' base' l' w v') (he : e ≠ e') (hg : w.grownBy w' v'.ownBlock) : OV e base l w' v := by
  refine World.ownsRow.kept h hg ?_
  rcases h.2 with ⟨rfl, _⟩ | ⟨g, cap, cur, rfl, _, hgc, _⟩
  · exact .inl rfl
  · rcases h'.2 with ⟨rfl, _⟩ | ⟨g', cap', cur', rfl, _, hgc', _⟩
    · exact .inr (by simp [Value.ownBlock])
    · refine .inr fun e3 => ?_
      simp [Value.ownBlock] at e3
      subst e3
      rw [hgc] at hgc'
      simp at hgc'
      exact he hgc'.2
/-- append(data, x) on a list of strings, with the frame told. -/
theorem append_strG {w0 w : World} {ts : List ByteArray} {v : Value} (x : ByteArray) (t ty : TypeId) (hK : Grew w0 w) (ho : OV 9 w0.heap.size (sv ts) w v) (hz : ts.length + 1 ≤ 1099511627776) :
    ∃ v' w', (Builtin.append_ #[22, 22] ty #[v, .slice (some ⟨w.heap.size, 0, none⟩) 1 1]).run Tryd.prog (w.alloc (.cells #[.string x] t)) = .ok v' w' ∧ OV 9 w0.heap.size (sv (ts ++ [x])) w' v' ∧ Grew w0 w' ∧ (w.alloc (.cells #[.string x] t)).grownBy w' v.ownBlock := by
  obtain ⟨i0, hi0, hz0, hz1, hz2⟩ := info_parts Tryd.infoStr
  obtain ⟨v', w', h1, h2, h3, _⟩ := run_append_own (P := Tryd.prog) (w.alloc (.cells #[.string x] t)) w0.heap.size 22 ty 9 i0 (.string .empty) 1 16 Tryd.underlying22 hi0 hz0 hz1 hz2 rfl (by omega) v (sv ts).length _ (OV.alloc ho _) ⟨w.heap.size, 0, none⟩ 1 1 [.string x] (by simp) (fun j u hu => by
    have hj : j = 0 := by
      have := (List.getElem?_eq_some_iff.1 hu).1; simpa using this
    subst hj
    simp at hu
    subst hu
    rw [Addr.add_lit, World.cell?_alloc_new]; rfl) (fun u hu => by rw [List.mem_singleton.1 hu]; rfl) (by simp only [maxLen, sv_length]; omega) (by rw [sv_length]; omega) (by have := hK.size; simp; omega)
  refine ⟨v', w', h1, ?_, Grew.grown (hK.alloc _) h3 fun k hk => (World.ownsRow.lt ho k hk).1, h3⟩
  have e : sv (ts ++ [x]) = sv ts ++ [.string x] := by simp [sv]
  unfold OV; rw [e, List.length_append]; exact h2
theorem Tryd.infoPtr : (Tryd.prog.info? 35).map (fun i => (i.zero, i.size, i.bytes)) = some (some (.pointer none), 1, 8) := by kernel_rfl
/-- append(l, x) on a list of indexes -/
theorem append_ptr {w0 w : World} {l : List Value} {v : Value} (x : Nat) (t ty : TypeId) (hK : Grew w0 w) (ho : OV 35 w0.heap.size l w v) (hz : l.length + 1 ≤ 1099511627776) :
    ∃ v' w', (Builtin.append_ #[39, 39] ty #[v, .slice (some ⟨w.heap.size, 0, none⟩) 1 1]).run Tryd.prog (w.alloc (.cells #[.pointer (some ⟨x, 0, none⟩)] t)) = .ok v' w' ∧ OV 35 w0.heap.size (l ++ [.pointer (some ⟨x, 0, none⟩)]) w' v' ∧ Grew w0 w' ∧ (w.alloc (.cells #[.pointer (some ⟨x, 0, none⟩)] t)).grownBy w' v.ownBlock ∧ (v'.ownBlock = v.ownBlock ∨ ∃ q, v'.ownBlock = some q ∧ w.heap.size ≤ q) := by
  obtain ⟨i0, hi0, hz0, hz1, hz2⟩ := info_parts Tryd.infoPtr
  obtain ⟨v', w', h1, h2, h3, _, h4⟩ := run_append_own_at (P := Tryd.prog) (w.alloc (.cells #[.pointer (some ⟨x, 0, none⟩)] t)) w0.heap.size 39 ty 35 i0 (.pointer none) 1 8 Tryd.underlying39 hi0 hz0 hz1 hz2 rfl (by omega) v l.length _ (OV.alloc ho _) ⟨w.heap.size, 0, none⟩ 1 1 [.pointer (some ⟨x, 0, none⟩)] (by simp) (fun j u hu => by
    have hj : j = 0 := by
      have := (List.getElem?_eq_some_iff.1 hu).1; simpa using this
    subst hj
    simp at hu
    subst hu
    rw [Addr.add_lit, World.cell?_alloc_new]; rfl) (fun u hu => by rw [List.mem_singleton.1 hu]; rfl) (by simp only [maxLen]; omega) (by omega) (by have := hK.size; simp; omega)
  refine ⟨v', w', h1, ?_, Grew.grown (hK.alloc _) h3 fun k hk => (World.ownsRow.lt ho k hk).1, h3, h4.imp id fun h => ⟨_, h, by simp⟩⟩
  unfold OV; rw [List.length_append]; exact h2
end Go.Proofs.YtoebcbmkkhbldaaDoor
