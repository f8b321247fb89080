/- impl.Lookups: one index, a list of texts. -/
import Derived.Test.YtpknikogkaogjaaDoorA7
set_option linter.unusedVariables false
namespace Go.Proofs.YtpknikogkaogjaaDoor
open Go.RowKit Go.Mem Sais
set_option maxRecDepth 100000

/-- A list of ints whose row is one of ints. -/
def TL (l : List Int) (w : World) (x : Value) : Prop := IL l w x ∧ (l ≠ [] → ∃ b o c cs fr, x = .slice (some ⟨b, o, none⟩) l.length c ∧ w.heap[b]? = some (.cells cs 3 fr))
theorem TL.grew {l : List Int} {w w' : World} {x : Value} (h : TL l w x) (hk : Grew w w') : TL l w' x := by
  refine ⟨h.1.grew hk, fun hl => ?_⟩
  obtain ⟨b, o, c, cs, fr, h1, h2⟩ := h.2 hl
  exact ⟨b, o, c, cs, fr, h1, (hk.block b (Array.getElem?_eq_some_iff.1 h2).1 fun _ h => h).trans h2⟩
theorem TL.grown {l : List Int} {w w' : World} {x ov : Value} {base : Nat} {vs : List Value} (h : TL l w x) (ho : OV 27 base vs w ov) (hg : w.grownBy w' ov.ownBlock) : TL l w' x := by
  by_cases hl : l = []
  · subst hl
    obtain ⟨a, c, rfl⟩ := h.1.shape
    exact ⟨IL.nil _ _, fun h => (h rfl).elim⟩
  · obtain ⟨b, o, c, cs, fr, h1, h2⟩ := h.2 hl
    have hb : b < w.heap.size := (Array.getElem?_eq_some_iff.1 h2).1
    have hne : some b ≠ ov.ownBlock := by
      intro e
      rcases ho.2 with ⟨rfl, _⟩ | ⟨g, cap, cur, rfl, _, hgc, _⟩
      · simp [Value.ownBlock] at e
      · simp [Value.ownBlock] at e
        subst e
        rw [hgc] at h2
        simp at h2
    have hbl := hg.block b hb hne
    refine ⟨?_, fun _ => ⟨b, o, c, cs, fr, h1, hbl.trans h2⟩⟩
    have h3 := h.1
    obtain ⟨b', o', c', h4, h5, h6⟩ := h3.cells (by rcases l with _ | _; exact (hl rfl).elim; simp)
    rw [h1] at h4
    injection h4 with e1 e2 e3
    injection e1 with e1
    injection e1 with e1 e1'
    subst e1 e1' e3
    rw [h1]
    exact IL.mk h5 fun j hj => (World.cell?_of_block (a := ⟨b, o + j, none⟩) hbl).trans (h6 j hj)
/-- A list in a new block, if it is not empty. -/
def Frsh (base : Nat) (v : Value) : Prop := ∀ (ad : Addr) (n c : Nat), v = .slice (some ad) n c → 0 < n → base ≤ ad.block
/-- append([]int(nil), xs...) -/
theorem inner_append (u : World) (rb c : Nat) (f : Nat → Int) (hc : c ≤ 1073741824) (h : Hold .i64 u rb 0 c f) :
    ∃ x u', (Builtin.append_ #[27, 27] 27 #[.slice none 0 0, listV rb c]).run Tryd.prog u = .ok x u' ∧ TL ((List.range c).map f) u' x ∧ Grew u u' ∧ Frsh u.heap.size x := by
  by_cases h0 : c = 0
  · subst h0
    obtain ⟨x, u', h1, h2, h3⟩ := append_ints (l := []) (l2 := []) 27 (Kept.refl _ u) (OL.nil _ u) (IL.nil none 0) (by simp)
    exact ⟨x, u', h1, ⟨h2.il, fun h => (h rfl).elim⟩, h3, fun ad n c e h => by
      obtain ⟨a1, c1, e1⟩ := h2.il.shape
      rw [e1] at e; injection e with _ e2 _; simp at e2; omega⟩
  · have e0 : listV rb c = .slice (some ⟨rb, 0, none⟩) c c := by unfold listV; rw [if_neg h0]
    rw [e0]
    obtain ⟨i0, hi, hz0, hz1, hz2⟩ := info_parts Tryd.infoInt
    have h1 := run_append_nil (P := Tryd.prog) u 27 27 3 i0 (.int .i64 0) Tryd.underlying27 hi hz0 ⟨rb, 0, none⟩ c c ((List.range c).map fun j => .int .i64 (f j)) (by rw [hz1]; simp) (fun j v hv => by
      have hj : j < c := by
        have := List.getElem?_eq_some_iff.1 hv; simpa using this.1
      have : v = .int .i64 (f j) := by simpa [List.getElem?_range hj] using hv.symm
      rw [this, Addr.add_lit]; exact (h j hj).1) (by omega) (by omega) (by rw [hz2]; omega)
    refine ⟨_, _, h1, ⟨?_, fun _ => ⟨u.heap.size, 0, _, _, _, by simp; rfl, heap_alloc_new u.drew _⟩⟩, (Kept.refl _ u : Grew u u).drew.alloc _, fun ad n c e h => by injection e with e1; injection e1 with e1; rw [← e1]; exact Nat.le_refl _⟩
    have := IL.mk (l := (List.range c).map f) (w := u.drew.alloc (.cells (((List.range c).map fun j => Value.int .i64 (f j)).toArray ++ Builtin.zeroCells (Value.int .i64 0).cells (grownCap u c 0 3 - c)) 3)) (b := u.heap.size) (o := 0) (c := grownCap u c 0 3) (by simp; exact grownCap_ge _ _ _ _) (fun j hj => by
      simp at hj
      rw [Nat.zero_add, show u.heap.size = u.drew.heap.size from rfl, World.cell?_alloc_new, Array.getElem?_append_left (by simpa using hj)]
      simp [hj])
    simpa using this
theorem Tryd.infoInts : (Tryd.prog.info? 27).map (fun i => (i.zero, i.size, i.bytes)) = some (some (.slice none 0 0), 1, 24) := by kernel_rfl
/-- append(out, x) on a list of lists -/
theorem append_list {w0 w : World} {l : List Value} {v x : Value} (t ty : TypeId) (hx : x.oneCell' = true) (hK : Grew w0 w) (ho : OV 27 w0.heap.size l w v) (hz : l.length + 1 ≤ 1099511627776) :
    ∃ v' w', (Builtin.append_ #[23, 23] ty #[v, .slice (some ⟨w.heap.size, 0, none⟩) 1 1]).run Tryd.prog (w.alloc (.cells #[x] t)) = .ok v' w' ∧ OV 27 w0.heap.size (l ++ [x]) w' v' ∧ Grew w0 w' ∧ (w.alloc (.cells #[x] t)).grownBy w' v.ownBlock := by
  obtain ⟨i0, hi0, hz0, hz1, hz2⟩ := info_parts Tryd.infoInts
  obtain ⟨v', w', h1, h2, h3, _⟩ := run_append_own (P := Tryd.prog) (w.alloc (.cells #[x] t)) w0.heap.size 23 ty 27 i0 (.slice none 0 0) 1 24 Tryd.underlying23 hi0 hz0 hz1 hz2 rfl (by omega) v l.length _ (ho.alloc _) ⟨w.heap.size, 0, none⟩ 1 1 [x] (by simp) (fun j u hu => by
    have hj : j = 0 := by
      have := (List.getElem?_eq_some_iff.1 hu).1; simpa using this
    subst hj
    simp at hu
    subst hu
    rw [Addr.add_lit, World.cell?_alloc_new]; rfl) (fun u hu => by rw [List.mem_singleton.1 hu]; exact hx) (by simp only [maxLen]; omega) (by omega) (by have := hK.size; simp; omega)
  exact ⟨v', w', h1, by unfold OV; rw [List.length_append]; exact h2, Grew.grown (hK.alloc _) h3 fun k hk => (World.ownsRow.lt ho k hk).1, h3⟩
/-- Lists of strings. -/
def sv (ts : List ByteArray) : List Value := ts.map Value.string
theorem sv_length (ts : List ByteArray) : (sv ts).length = ts.length := List.length_map _
def TS (ts : List ByteArray) (w : World) (v : Value) : Prop := VL (sv ts) w v
theorem TS.grew {ts : List ByteArray} {w w' : World} {v : Value} (h : TS ts w v) (hk : Grew w w') : TS ts w' v := VL.grew h hk
theorem TS.shape {ts : List ByteArray} {w : World} {v : Value} (h : TS ts w v) : ∃ a c, v = .slice a ts.length c := by
  obtain ⟨a, c, h⟩ := VL.shape h; exact ⟨a, c, by rw [h, sv_length]⟩
theorem TS.cells {ts : List ByteArray} {w : World} {v : Value} (h : TS ts w v) (h0 : 0 < ts.length) : ∃ b o c, v = .slice (some ⟨b, o, none⟩) ts.length c ∧ ts.length ≤ c ∧ ∀ j (h : j < ts.length), w.cell? ⟨b, o + j, none⟩ = some (.string ts[j]) := by
  obtain ⟨b, o, c, h1, h2, h3⟩ := VL.cells h (by rw [sv_length]; exact h0)
  rw [sv_length] at h1 h2
  exact ⟨b, o, c, h1, h2, fun j hj => by rw [h3 j (by rw [sv_length]; exact hj)]; simp [sv]⟩
/-- A list of lists: for each text its places, in some order. -/
def LL (d : ByteArray) (ts : List ByteArray) (vs : List Value) (w : World) : Prop := ∀ j (h : j < vs.length) (h2 : j < ts.length), ∃ l, TL l w vs[j] ∧ l.Perm (ints (places d ts[j]))
theorem LL.snoc {d : ByteArray} {ts : List ByteArray} {vs : List Value} {w : World} {x : Value} {l : List Int} (h : LL d ts vs w) (hl : vs.length < ts.length) (hx : TL l w x) (hp : l.Perm (ints (places d ts[vs.length]))) : LL d ts (vs ++ [x]) w := by
  intro j h1 h2
  by_cases e : j < vs.length
  · obtain ⟨l', a, b⟩ := h j e h2
    exact ⟨l', by rw [List.getElem_append_left e]; exact a, b⟩
  · have e2 : j = vs.length := by rw [List.length_append, List.length_singleton] at h1; omega
    subst e2
    exact ⟨l, by simpa using hx, hp⟩
def LsRel (d : ByteArray) (ts : List ByteArray) (w1 : World) (ov iv : Value) (wr : World) : Prop := ∃ (k : Nat) (vs : List Value), k ≤ ts.length ∧ iv = .int .i64 k ∧ vs.length = k ∧ Hid (OV 27 w1.heap.size vs wr ov) ∧ Hid (LL d ts vs wr) ∧ Hid (Grew w1 wr) ∧ Hid (∀ x ∈ vs, Frsh w1.heap.size x)
/-- What impl.Lookups hands back. -/
def LsPost (d : ByteArray) (ts : List ByteArray) (w : World) (e : Ending) (w' : World) : Prop := ∃ vs v, e = .returned v ∧ VL vs w' v ∧ vs.length = ts.length ∧ LL d ts vs w' ∧ Grew w w'
def LsPostF (d : ByteArray) (ts : List ByteArray) (w : World) (e : Ending) (w' : World) : Prop := ∃ vs v, e = .returned v ∧ VL vs w' v ∧ vs.length = ts.length ∧ LL d ts vs w' ∧ Grew w w' ∧ ∀ x ∈ vs, Frsh w.heap.size x
theorem TL.one {l : List Int} {w : World} {x : Value} (h : TL l w x) : x.oneCell' = true := by
  obtain ⟨a, c, rfl⟩ := h.1.shape; rfl
set_option maxHeartbeats 8000000 in
theorem lookups_fresh (d : ByteArray) (ts : List ByteArray) (lv : Value) (w : World) (hd : d.size ≤ 1073741824) (ht : ∀ t ∈ ts, t.size ≤ 1073741824) (hl : ts.length ≤ 1073741824) (h : TS ts w lv) (hmax : MaxIs w) :
    Calls Tryd.prog 11 #[.string d, lv] w (LsPostF d ts w) := by
  have hc1 := run_str w d
  have HN := Lib.hid (new_ix (chr d) d.size w.heap.size 0 (grownCap w d.size 0 5) (strV w d) (some ⟨w.heap.size, 0, none⟩) (strW w d) hd (fun i _ => chr_lt d i) rfl (strV_text w d) (hmax.grew (strW_grew w d)))
  have HI := Lib.hid h
  have HT := Lib.hid ht
  obtain ⟨a0, c0, rfl⟩ := h.shape
  clear hmax h ht
  go_enter Tryd.func11, Tryd.ntmps11
  go_wp2_with fail
  refine HN.out.mono ?_
  rintro e w1 ⟨xb, sb, sa, rfl, hIx, _, _, _, hk1, _, _⟩
  have HK1 := Lib.hid ((strW_grew w d).trans hk1)
  have HX := Lib.hid hIx
  have HI1 := Lib.hid (HI.out.grew HK1.out)
  clear hIx hk1 HN hc1 HI
  go_wp2_with fail
  go_loopw [6, 14, 8] (fun ov i _ wr => LsRel d ts w1 ov i wr) (fun _ i _ _ => ts.length - (intOf i).toNat)
  case atStart => exact ⟨0, [], by omega, rfl, rfl, OV.nil _ _ _, fun j h => by simp at h, Kept.refl _ _, fun x h => by simp at h⟩
  case round =>
    obtain ⟨k, vs, hk, rfl, hvs, HO, HL, HW, HF⟩ := hrel
    by_cases hlt : k < ts.length
    · obtain ⟨b, o, c, e, _, hcell⟩ := HI1.out.cells (by omega)
      injection e with ea en ec
      subst ea ec
      have hck := hcell k hlt
      have c1 : wr.cell? ⟨b, o + k, none⟩ = some (.string ts[k]) := (HW.out.cell _ _ (World.block_lt_of_cell? w1 _ hck) fun h => h).trans hck
      have y1 : (k : Int) < (ts.length : Int) := by omega
      have htk := HT.out ts[k] (List.getElem_mem hlt)
      have hsn : ∀ (u : World) (x : Value) (l : List Int), LL d ts vs u → TL l u x → l.Perm (ints (places d ts[k])) → LL d ts (vs ++ [x]) u := fun u x l h1 h2 h3 => by
        subst hvs; exact h1.snoc hlt h2 h3
      have HSN := Lib.hid hsn
      have hcv := run_str wr ts[k]
      have HC2 := Lib.hid (lookup_ix xb d.size _ _ _ _ _ ts[k].size (chr d) (chr ts[k]) sa _ (strV wr ts[k]) (-1) (strW wr ts[k]) (HX.out.grew (HW.out.trans (strW_grew wr ts[k]))) (fun j _ => chr_lt ts[k] j) (strV_bytes wr ts[k]) ⟨_, _, rfl⟩ htk (by omega) (by omega))
      have hlen : lim (many2 (chr d) d.size sa (chr ts[k]) ts[k].size) ts[k].size (-1) ≤ d.size := by
        have := many2_le (T := chr d) (n := d.size) (sa := sa) (g := chr ts[k]) (k := ts[k].size)
        unfold lim; split
        · omega
        · split <;> omega
      have HP := Lib.hid (found_perm (t := ts[k]) HX.out.isa)
      clear hcell hck HI1 HT hsn
      generalize lim (many2 (chr d) d.size sa (chr ts[k]) ts[k].size) ts[k].size (-1) = cnt' at *
      generalize (fun j => sa (from1 (chr d) d.size sa (chr ts[k]) ts[k].size + j)) = F at *
      have HLp := Lib.hid (rfl : ts[k] = ts[k])
      generalize ts[k] = tk at *
      go_wp2_with fail
      refine HC2.out.mono ?_
      rintro e w2 ⟨rb, rfl, hrb, hH, hk2⟩
      have hG2 : Grew wr w2 := (strW_grew wr tk).trans hk2
      obtain ⟨x, u', happ1, hT, hk3, hfr⟩ := inner_append w2 rb cnt' F (by omega) hH
      have HF' : Hid (∀ y ∈ vs ++ [x], Frsh w1.heap.size y) := fun y hy => by
        rcases List.mem_append.1 hy with hy | hy
        · exact HF.out y hy
        · obtain rfl := List.mem_singleton.1 hy
          intro ad n c e h
          have h1 := hfr ad n c e h
          have h2 := (HW.out.trans hG2).size
          omega
      obtain ⟨xa, xc, hxs⟩ := hT.1.shape
      rw [List.length_map, List.length_range] at hxs
      subst hxs
      obtain ⟨v', w', happ2, ho', hk', hgr⟩ := append_list 27 23 hT.one ((HW.out.trans hG2).trans hk3) ((HO.out.grew hG2).grew hk3) (by omega)
      have HLL : Hid (LL d ts (vs ++ [.slice xa cnt' xc]) w') := by
        refine HSN.out w' _ _ (fun j h1 h2 => ?_) (TL.grown (hT.grew ((Kept.refl _ u' : Grew u' u').alloc _)) (((HO.out.grew hG2).grew hk3).alloc _) hgr) HP.out
        obtain ⟨l, a, b⟩ := HL.out j h1 h2
        exact ⟨l, TL.grown (((a.grew hG2).grew hk3).grew ((Kept.refl _ u' : Grew u' u').alloc _)) (((HO.out.grew hG2).grew hk3).alloc _) hgr, b⟩
      have HO' := Lib.hid ho'; have HK' := Lib.hid hk'
      have hv2 : (vs ++ [Value.slice xa cnt' xc]).length = k + 1 := by simp [hvs]
      have HV2 := Lib.hid hv2
      clear HC2 hrb hH hk2 hG2 hT hk3 ho' hk' hgr hfr HF HSN HP HL HO HW hvs hv2 hcv HLp c1
      go_wp2_with (first | (at_builtin; refine wpList_append_run rfl _ _ _ _ rfl _ _ rfl rfl _ _ happ1 ?_) | (at_builtin; refine wpList_append_run rfl _ _ _ _ rfl _ _ rfl rfl _ _ happ2 ?_))
      go_roundw
      case rel => exact ⟨k + 1, vs ++ [.slice xa cnt' xc], by omega, by go_num, HV2.out, HO', HLL, HK', HF'⟩
      case measure => simp [intOf]; omega
    · obtain rfl : k = ts.length := by omega
      have HP : Hid (LsPostF d ts w (.returned u6) wr) := ⟨vs, u6, rfl, HO.out.vl, hvs, HL.out, HK1.out.trans HW.out, fun x hx ad n c e h => Nat.le_trans HK1.out.size (HF.out x hx ad n c e h)⟩
      clear HO HL HW HX HI1 HT HK1 hvs HF
      go_wp2
      go_ret
      exact HP.out
theorem lookups_any (d : ByteArray) (ts : List ByteArray) (lv : Value) (w : World) (hd : d.size ≤ 1073741824) (ht : ∀ t ∈ ts, t.size ≤ 1073741824) (hl : ts.length ≤ 1073741824) (h : TS ts w lv) (hmax : MaxIs w) :
    Calls Tryd.prog 11 #[.string d, lv] w (LsPost d ts w) :=
  (lookups_fresh d ts lv w hd ht hl h hmax).mono fun e w' ⟨vs, v, h1, h2, h3, h4, h5, _⟩ => ⟨vs, v, h1, h2, h3, h4, h5⟩
end Go.Proofs.YtpknikogkaogjaaDoor
