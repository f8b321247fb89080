/- impl.Lookups: one index, a list of texts. -/
import Derived.Test.YtoebcbmkkhbldaaDoorA7
set_option linter.unusedVariables false
namespace Go.Proofs.YtoebcbmkkhbldaaDoor
open Go.RowKit Go.Mem Sais
set_option maxRecDepth 100000

/-- A list of ints whose row is one of ints. -/
def TL (l : List Int) (w : World) (x : Value) : Prop := IL l w x ∧ (l ≠ [] → ∃ b o c cs fr, x = .slice (some ⟨b, o, none⟩) l.length c ∧ w.heap[b]? = some (.cells cs 3 fr))
theorem TL.grew {l : List Int} {w w' : World} {x : Value} (h : TL l w x) (hk : Grew w w') : TL l w' x := by
  refine ⟨h.1.grew hk, fun hl => ?_⟩
  obtain ⟨b, o, c, cs, fr, h1, h2⟩ := h.2 hl
  exact ⟨b, o, c, cs, fr, h1, (hk.block b (Array.getElem?_eq_some_iff.1 h2).1 fun _ h => h).trans h2⟩
theorem TL.grown {l : List Int} {w w' : World} {x ov : Value} {base : Nat} {vs : List Value} (h : TL l w x) (ho : OV 26 base vs w ov) (hg : w.grownBy w' ov.ownBlock) : TL l w' x := by
  by_cases hl : l = []
  · subst hl
    obtain ⟨a, c, rfl⟩ := h.1.shape
    exact ⟨IL.nil _ _, fun h => (h rfl).elim⟩
  · obtain ⟨b, o, c, cs, fr, h1, h2⟩ := h.2 hl
    have hb : b < w.heap.size := (Array.getElem?_eq_some_iff.1 h2).1
    have hne : some b ≠ ov.ownBlock := by
      intro e
      rcases ho.2 with ⟨rfl, _⟩ | ⟨g, cap, cur, rfl, _, hgc, _⟩
      · simp [Value.ownBlock] at e
      · simp [Value.ownBlock] at e
        subst e
        rw [hgc] at h2
        simp at h2
    have hbl := hg.block b hb hne
    refine ⟨?_, fun _ => ⟨b, o, c, cs, fr, h1, hbl.trans h2⟩⟩
    have h3 := h.1
    obtain ⟨b', o', c', h4, h5, h6⟩ := h3.cells (by rcases l with _ | _; exact (hl rfl).elim; simp)
    rw [h1] at h4
    injection h4 with e1 e2 e3
    injection e1 with e1
    injection e1 with e1 e1'
    subst e1 e1' e3
    rw [h1]
    exact IL.mk h5 fun j hj => (World.cell?_of_block (a := ⟨b, o + j, none⟩) hbl).trans (h6 j hj)
/-- A list in a new block, if it is not empty. -/
def Frsh (base : Nat) (v : Value) : Prop := ∀ (ad : Addr) (n c : Nat), v = .slice (some ad) n c → 0 < n → base ≤ ad.block
/-- append([]int(nil), xs...) -/
theorem inner_append (u : World) (rb c : Nat) (f : Nat → Int) (hc : c ≤ 1073741824) (h : Hold .i64 u rb 0 c f) :
    ∃ x u', (Builtin.append_ #[26, 26] 26 #[.slice none 0 0, listV rb c]).run Tryd.prog u = .ok x u' ∧ TL ((List.range c).map f) u' x ∧ Grew u u' ∧ Frsh u.heap.size x := by
  by_cases h0 : c = 0
  · subst h0
    obtain ⟨x, u', h1, h2, h3⟩ := append_ints (l := []) (l2 := []) 26 (Kept.refl _ u) (OL.nil _ u) (IL.nil none 0) (by simp)
    exact ⟨x, u', h1, ⟨h2.il, fun h => (h rfl).elim⟩, h3, fun ad n c e h => by
      obtain ⟨a1, c1, e1⟩ := h2.il.shape
      rw [e1] at e; injection e with _ e2 _; simp at e2; omega⟩
  · have e0 : listV rb c = .slice (some ⟨rb, 0, none⟩) c c := by unfold listV; rw [if_neg h0]
    rw [e0]
    obtain ⟨i0, hi, hz0, hz1, hz2⟩ := info_parts Tryd.infoInt
    have h1 := run_append_nil (P := Tryd.prog) u 26 26 3 i0 (.int .i64 0) Tryd.underlying26 hi hz0 ⟨rb, 0, none⟩ c c ((List.range c).map fun j => .int .i64 (f j)) (by rw [hz1]; simp) (fun j v hv => by
      have hj : j < c := by
        have := List.getElem?_eq_some_iff.1 hv; simpa using this.1
      have : v = .int .i64 (f j) := by simpa [List.getElem?_range hj] using hv.symm
      rw [this, Addr.add_lit]; exact (h j hj).1) (by omega) (by omega) (by rw [hz2]; omega)
    refine ⟨_, _, h1, ⟨?_, fun _ => ⟨u.heap.size, 0, _, _, _, by simp; rfl, heap_alloc_new u.drew _⟩⟩, (Kept.refl _ u : Grew u u).drew.alloc _, fun ad n c e h => by injection e with e1; injection e1 with e1; rw [← e1]; exact Nat.le_refl _⟩
    have := IL.mk (l := (List.range c).map f) (w := u.drew.alloc (.cells (((List.range c).map fun j => Value.int .i64 (f j)).toArray ++ Builtin.zeroCells (Value.int .i64 0).cells (grownCap u c 0 3 - c)) 3)) (b := u.heap.size) (o := 0) (c := grownCap u c 0 3) (by simp; exact grownCap_ge _ _ _ _) (fun j hj => by
      simp at hj
      rw [Nat.zero_add, show u.heap.size = u.drew.heap.size from rfl, World.cell?_alloc_new, Array.getElem?_append_left (by simpa using hj)]
      simp [hj])
    simpa using this
theorem Tryd.infoInts : (Tryd.prog.info? 26).map (fun i => (i.zero, i.size, i.bytes)) = some (some (.slice none 0 0), 1, 24) := by kernel_rfl
/-- append(out, x) on a list of lists -/
theorem append_list {w0 w : World} {l : List Value} {v x : Value} (t ty : TypeId) (hx : x.oneCell' = true) (hK : Grew w0 w) (ho : OV 26 w0.heap.size l w v) (hz : l.length + 1 ≤ 1099511627776) :
    ∃ v' w', (Builtin.append_ #[23, 23] ty #[v, .slice (some ⟨w.heap.size, 0, none⟩) 1 1]).run Tryd.prog (w.alloc (.cells #[x] t)) = .ok v' w' ∧ OV 26 w0.heap.size (l ++ [x]) w' v' ∧ Grew w0 w' ∧ (w.alloc (.cells #[x] t)).grownBy w' v.ownBlock := by
  obtain ⟨i0, hi0, hz0, hz1, hz2⟩ := info_parts Tryd.infoInts
  obtain ⟨v', w', h1, h2, h3, _⟩ := run_append_own (P := Tryd.prog) (w.alloc (.cells #[x] t)) w0.heap.size 23 ty 26 i0 (.slice none 0 0) 1 24 Tryd.underlying23 hi0 hz0 hz1 hz2 rfl (by omega) v l.length _ (ho.alloc _) ⟨w.heap.size, 0, none⟩ 1 1 [x] (by simp) (fun j u hu => by
    have hj : j = 0 := by
      have := (List.getElem?_eq_some_iff.1 hu).1; simpa using this
    subst hj
    simp at hu
    subst hu
    rw [Addr.add_lit, World.cell?_alloc_new]; rfl) (fun u hu => by rw [List.mem_singleton.1 hu]; exact hx) (by simp only [maxLen]; omega) (by omega) (by have := hK.size; simp; omega)
  exact ⟨v', w', h1, by unfold OV; rw [List.length_append]; exact h2, Grew.grown (hK.alloc _) h3 fun k hk => (World.ownsRow.lt ho k hk).1, h3⟩
/-- Lists of strings. -/
def sv (ts : List ByteArray) : List Value := ts.map Value.string
theorem sv_length (ts : List ByteArray) : (sv ts).length = ts.length := List.length_map _
def TS (ts : List ByteArray) (w : World) (v : Value) : Prop := VL (sv ts) w v
theorem TS.grew {ts : List ByteArray} {w w' : World} {v : Value} (h : TS ts w v) (hk : Grew w w') : TS ts w' v := VL.grew h hk
theorem TS.shape {ts : List ByteArray} {w : World} {v : Value} (h : TS ts w v) : ∃ a c, v = .slice a ts.length c := by
  obtain ⟨a, c, h⟩ := VL.shape h; exact ⟨a, c, by rw [h, sv_length]⟩
theorem TS.cells {ts : List ByteArray} {w : World} {v : Value} (h : TS ts w v) (h0 : 0 < ts.length) : ∃ b o c, v = .slice (some ⟨b, o, none⟩) ts.length c ∧ ts.length ≤ c ∧ ∀ j (h : j < ts.length), w.cell? ⟨b, o + j, none⟩ = some (.string ts[j]) := by
  obtain ⟨b, o, c, h1, h2, h3⟩ := VL.cells h (by rw [sv_length]; exact h0)
  rw [sv_length] at h1 h2
  exact ⟨b, o, c, h1, h2, fun j hj => by rw [h3 j (by rw [sv_length]; exact hj)]; simp [sv]⟩
/-- A list of lists: for each text its places, in some order. -/
def LL (d : ByteArray) (ts : List ByteArray) (vs : List Value) (w : World) : Prop := ∀ j (h : j < vs.length) (h2 : j < ts.length), ∃ l, TL l w vs[j] ∧ l.Perm (ints (places d ts[j]))
theorem LL.snoc {d : ByteArray} {ts : List ByteArray} {vs : List Value} {w : World} {x : Value} {l : List Int} (h : LL d ts vs w) (hl : vs.length < ts.length) (hx : TL l w x) (hp : l.Perm (ints (places d ts[vs.length]))) : LL d ts (vs ++ [x]) w := by
  intro j h1 h2
  by_cases e : j < vs.length
  · obtain ⟨l', a, b⟩ := h j e h2
    exact ⟨l', by rw [List.getElem_append_left e]; exact a, b⟩
  · have e2 : j = vs.length := by rw [List.length_append, List.length_singleton] at h1; omega
    subst e2
    exact ⟨l, by simpa using hx, hp⟩
def LsRel (d : ByteArray) (ts : List ByteArray) (w1 : World) (ov iv : Value) (wr : World) : Prop := ∃ (k : Nat) (vs : List Value), k ≤ ts.length ∧ iv = .int .i64 k ∧ vs.length = k ∧ Hid (OV 26 w1.heap.size vs wr ov) ∧ Hid (LL d ts vs wr) ∧ Hid (Grew w1 wr) ∧ Hid (∀ x ∈ vs, Frsh w1.heap.size x)
/-- What impl.Lookups hands back. -/
def LsPost (d : ByteArray) (ts : List ByteArray) (w : World) (e : Ending) (w' : World) : Prop := ∃ vs v, e = .returned v ∧ VL vs w' v ∧ vs.length = ts.length ∧ LL d ts vs w' ∧ Grew w w'
def LsPostF (d : ByteArray) (ts : List ByteArray) (w : World) (e : Ending) (w' : World) : Prop := ∃ vs v, e = .returned v ∧ VL vs w' v ∧ vs.length = ts.length ∧ LL d ts vs w' ∧ Grew w w' ∧ ∀ x ∈ vs, Frsh w.heap.size x
theorem TL.one {l : List Int} {w : World} {x : Value} (h : TL l w x) : x.oneCell' = true := by
  obtain ⟨a, c, rfl⟩ := h.1.shape; rfl
end Go.Proofs.YtoebcbmkkhbldaaDoor
