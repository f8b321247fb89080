/- (*Index).Read: the index that is read into. -/
import Derived.Test.YtoebcbmkkhbldaaDoorQRds
set_option linter.unusedVariables false
namespace Go.Proofs.YtoebcbmkkhbldaaDoor
open Go.RowKit Go.Mem Sais Go.Lib Go.Wire
set_option maxRecDepth 100000

/-- An index that may be read into: its rows have room for c. -/
structure Own (w : World) (xb tb sb c n : Nat) (d : Option Addr) : Prop where
  c0 : w.cell? ⟨xb, 0, none⟩ = some (.slice d n c)
  c1 : w.cell? ⟨xb, 1, none⟩ = some (.slice (some ⟨sb, 0, none⟩) n c)
  c2 : w.cell? ⟨xb, 2, none⟩ = some (.slice none 0 0)
  f : ∀ o, o < 3 → w.frozen? ⟨xb, o, none⟩ = false
  hd : d = some ⟨tb, 0, none⟩ ∨ (d = none ∧ c = 0)
  ht : ∃ f, Hold .u8 w tb 0 c (bf f) ∧ f.length = c
  hs : ∃ f, Hold .i32 w sb 0 c f
  nc : n ≤ c
  cb : c ≤ 1073741824
  lx : xb < w.heap.size
  lt : tb < w.heap.size
  ls : sb < w.heap.size
  n1 : xb ≠ tb
  n2 : xb ≠ sb
  n3 : 0 < c → tb ≠ sb
theorem Own.kept {w w' : World} {xb tb sb c n : Nat} {d : Option Addr} {S : Nat → Nat → Prop} (h : Own w xb tb sb c n d) (hk : Kept S w w') (hx : ∀ o, ¬ S xb o) (ht : ∀ o, ¬ S tb o) (hs : ∀ o, ¬ S sb o) : Own w' xb tb sb c n d := by
  obtain ⟨f, hf, hfl⟩ := h.ht
  obtain ⟨f', hf'⟩ := h.hs
  exact ⟨(hk.cell xb 0 h.lx (hx 0)).trans h.c0, (hk.cell xb 1 h.lx (hx 1)).trans h.c1, (hk.cell xb 2 h.lx (hx 2)).trans h.c2, fun o ho => (hk.frozen xb o h.lx).trans (h.f o ho), h.hd, ⟨f, hf.kept hk fun j _ => ht _, hfl⟩, ⟨f', hf'.kept hk fun j _ => hs _⟩, h.nc, h.cb, Nat.lt_of_lt_of_le h.lx hk.size, Nat.lt_of_lt_of_le h.lt hk.size, Nat.lt_of_lt_of_le h.ls hk.size, h.n1, h.n2, h.n3⟩
/-- The blocks of an index and of a reader. -/
def OX (D : Nat → Prop) (xb tb sb : Nat) : Nat → Nat → Prop := fun x _ => D x ∨ x = xb ∨ x = tb ∨ x = sb
/-- sa.slice(0, j) -/
theorem ints_slice_zero (xb o n sc sb j : Nat) (w : World) (hj : j ≤ sc) (hsc : sc ≤ 1073741824) (c1 : w.cell? ⟨xb, o, none⟩ = some (.slice (some ⟨sb, 0, none⟩) n sc)) :
    Calls Tryd.prog 15 #[.pointer (some ⟨xb, o, none⟩), .int .i64 0, .int .i64 (j : Nat)] w (IPost (.agg #[.slice (some ⟨sb, 0, none⟩) j sc, .slice none 0 0]) w) := by
  have hb := World.block_lt_of_cell? w _ c1
  have hb' : xb ≠ w.heap.size := Nat.ne_of_lt hb
  have q1 := Tryd.neq77s
  have x2 : (j : Int) ≤ (sc : Int) := by omega
  by_cases h0 : sc = 0
  · obtain rfl : j = 0 := by omega
    subst h0
    rw [show ((0 : Nat) : Int) = 0 from rfl] at *
    go_enter Tryd.func15, Tryd.ntmps15
    go_wp2
    exact bodyPost_ret (v := .agg #[.slice (some ⟨sb, 0, none⟩) 0 0, .slice none 0 0]) (by simp [results, Tryd.results15, go_sem]) rfl ⟨rfl, (Kept.refl _ w).alloc _⟩
  · go_enter Tryd.func15, Tryd.ntmps15
    go_wp2
    exact bodyPost_ret (v := .agg #[.slice (some ⟨sb, 0, none⟩) j sc, .slice none 0 0]) (by simp [results, Tryd.results15, go_sem]) rfl ⟨rfl, (Kept.refl _ w).alloc _⟩
theorem nil64 (W : World) : (binOp .neq 44 (.slice none 0 0) (.slice none 0 0)).run Tryd.prog W = .ok (.bool false) W := by kernel_rfl
/-- Between the making of room and the reading of the data. -/
def RxMid (RS : List UInt8 → World → Prop) (D : Nat → Prop) (s : List UInt8) (k xb tb sb n : Nat) (w wx : World) : Prop :=
  ∃ tb' sb' c' d', Own wx xb tb' sb' c' n d' ∧ RS s wx ∧ (∃ b, By wx k 0 b ∧ b.length = 16384) ∧ Kept (OX D xb tb sb) w wx ∧ (tb' = tb ∧ sb' = sb ∨ w.heap.size < tb' ∧ w.heap.size < sb')
/-- What the making of room leaves. -/
structure Made (w2 W : World) (xb tb sb tb' sb' c' n : Nat) (d' : Option Addr) : Prop where
  own : Own W xb tb' sb' c' n d'
  kept : Kept (fun x _ => x = xb) w2 W
  which : tb' = tb ∧ sb' = sb ∨ w2.heap.size ≤ tb' ∧ w2.heap.size ≤ sb'
theorem Made.mid {RS : List UInt8 → World → Prop} {D : Nat → Prop} {t : TypeId} {rp : Option Addr} {F : Nat} {s : List UInt8} {k xb tb sb tb' sb' c c' n n0 : Nat} {d d' : Option Addr} {w w2 W : World} (h : Made w2 W xb tb sb tb' sb' c' n d') (R : Rdr t rp F RS D) (hS : RS s w2) (hB : ∃ b, By w2 k 0 b ∧ b.length = 16384) (hK : Kept (fun x _ => D x) w w2) (hD : ¬ D xb) (hO : Own w xb tb sb c n0 d) (hk : w.heap.size = k) (hs : k < w2.heap.size) : RxMid RS D s k xb tb sb n w W := by
  have hxk : xb ≠ k := by have := hO.lx; omega
  obtain ⟨b, hb, hbl⟩ := hB
  refine ⟨tb', sb', c', d', h.own, R.kept hS h.kept fun x o hx hh => hD (by rw [← hh]; exact hx), ⟨b, hb.kept h.kept fun j _ hh => hxk hh.symm, hbl⟩, (hK.mono fun x o _ hh => .inl hh).trans' h.kept fun x o _ hh => .inr (.inl hh), h.which.imp id fun hh => by omega⟩
theorem own_re {w2 w3 : World} {xb tb sb c n0 n : Nat} {d : Option Addr} (h : Own w2 xb tb sb c n0 d) (hK : Grew (w2.setCell ⟨xb, 0, none⟩ (.slice d n c)) w3) (hn : n ≤ c) : Made w2 ((w3.setCell ⟨xb, 1, none⟩ (.slice (some ⟨sb, 0, none⟩) n c)).setCell ⟨xb, 2, none⟩ (.slice none 0 0)) xb tb sb tb sb c n d := by
  have hK1 : Kept (fun x _ => x = xb) w2 (w2.setCell ⟨xb, 0, none⟩ (.slice d n c)) := (Kept.refl (fun x _ => x = xb) w2).set _ rfl
  have hK2 : Kept (fun x _ => x = xb) w3 ((w3.setCell ⟨xb, 1, none⟩ (.slice (some ⟨sb, 0, none⟩) n c)).setCell ⟨xb, 2, none⟩ (.slice none 0 0)) := ((Kept.refl (fun x _ => x = xb) w3).set _ rfl).set _ rfl
  have hKK := (hK1.trans' hK fun _ _ _ h => h.elim).trans' hK2 fun _ _ _ h => h
  have hxl : xb < (w2.setCell ⟨xb, 0, none⟩ (.slice d n c)).heap.size := by rw [World.size_setCell]; exact h.lx
  have d0 : w3.cell? ⟨xb, 0, none⟩ = some (.slice d n c) := (hK.cell xb 0 hxl fun h => h).trans (World.cell?_setCell_same _ _ _ h.c0)
  have d1 : w3.cell? ⟨xb, 1, none⟩ = some (.slice (some ⟨sb, 0, none⟩) n0 c) := (hK.cell xb 1 hxl fun h => h).trans (by rw [World.cell?_setCell_other _ _ _ _ (by simp)]; exact h.c1)
  have d2 : w3.cell? ⟨xb, 2, none⟩ = some (.slice none 0 0) := (hK.cell xb 2 hxl fun h => h).trans (by rw [World.cell?_setCell_other _ _ _ _ (by simp)]; exact h.c2)
  obtain ⟨f, hf, hfl⟩ := h.ht
  obtain ⟨f', hf'⟩ := h.hs
  refine ⟨⟨?_, ?_, ?_, fun o ho => (hKK.frozen xb o h.lx).trans (h.f o ho), h.hd, ⟨f, hf.kept hKK fun j _ hh => h.n1 hh.symm, hfl⟩, ⟨f', hf'.kept hKK fun j _ hh => h.n2 hh.symm⟩, hn, h.cb, Nat.lt_of_lt_of_le h.lx hKK.size, Nat.lt_of_lt_of_le h.lt hKK.size, Nat.lt_of_lt_of_le h.ls hKK.size, h.n1, h.n2, h.n3⟩, hKK, .inl ⟨rfl, rfl⟩⟩
  · rw [World.cell?_setCell_other _ _ _ _ (by simp), World.cell?_setCell_other _ _ _ _ (by simp)]; exact d0
  · rw [World.cell?_setCell_other _ _ _ _ (by simp), World.cell?_setCell_same _ _ _ d1]
  · rw [World.cell?_setCell_same _ _ _ (u := .slice none 0 0)]
    rw [World.cell?_setCell_other _ _ _ _ (by simp)]; exact d2
/-- New room for the data. -/
structure New1 (w2 W : World) (xb n : Nat) : Prop where
  c0 : W.cell? ⟨xb, 0, none⟩ = some (.slice (some ⟨w2.heap.size, 0, none⟩) n n)
  c1 : W.cell? ⟨xb, 1, none⟩ = some (.slice none 0 0)
  c2 : W.cell? ⟨xb, 2, none⟩ = some (.slice none 0 0)
  f : ∀ o, o < 3 → W.frozen? ⟨xb, o, none⟩ = false
  b : By W w2.heap.size 0 (List.replicate n 0)
  k : Kept (fun x _ => x = xb) w2 W
  s : W.heap.size = w2.heap.size + 1
  x : xb < w2.heap.size
theorem new1 {w2 : World} {xb tb sb c n0 n : Nat} {d : Option Addr} (h : Own w2 xb tb sb c n0 d) : New1 w2 ((((w2.setCell ⟨xb, 0, none⟩ (.slice (some ⟨w2.heap.size, 0, none⟩) n n)).setCell ⟨xb, 1, none⟩ (.slice none 0 0)).setCell ⟨xb, 2, none⟩ (.slice none 0 0)).alloc (.cells (madeCells #[.int .u8 0] n) 5)) xb n := by
  have hsz : (((w2.setCell ⟨xb, 0, none⟩ (.slice (some ⟨w2.heap.size, 0, none⟩) n n)).setCell ⟨xb, 1, none⟩ (.slice none 0 0)).setCell ⟨xb, 2, none⟩ (.slice none 0 0)).heap.size = w2.heap.size := by rw [World.size_setCell, World.size_setCell, World.size_setCell]
  have hK : Kept (fun x _ => x = xb) w2 (((w2.setCell ⟨xb, 0, none⟩ (.slice (some ⟨w2.heap.size, 0, none⟩) n n)).setCell ⟨xb, 1, none⟩ (.slice none 0 0)).setCell ⟨xb, 2, none⟩ (.slice none 0 0)) := (((Kept.refl (fun x _ => x = xb) w2).set _ rfl).set _ rfl).set _ rfl
  have d0 : (((w2.setCell ⟨xb, 0, none⟩ (.slice (some ⟨w2.heap.size, 0, none⟩) n n)).setCell ⟨xb, 1, none⟩ (.slice none 0 0)).setCell ⟨xb, 2, none⟩ (.slice none 0 0)).cell? ⟨xb, 0, none⟩ = some (.slice (some ⟨w2.heap.size, 0, none⟩) n n) := by
    rw [World.cell?_setCell_other _ _ _ _ (by simp), World.cell?_setCell_other _ _ _ _ (by simp), World.cell?_setCell_same _ _ _ h.c0]
  have d1 : (((w2.setCell ⟨xb, 0, none⟩ (.slice (some ⟨w2.heap.size, 0, none⟩) n n)).setCell ⟨xb, 1, none⟩ (.slice none 0 0)).setCell ⟨xb, 2, none⟩ (.slice none 0 0)).cell? ⟨xb, 1, none⟩ = some (.slice none 0 0) := by
    rw [World.cell?_setCell_other _ _ _ _ (by simp), World.cell?_setCell_same _ _ _ (u := .slice (some ⟨sb, 0, none⟩) n0 c)]
    rw [World.cell?_setCell_other _ _ _ _ (by simp)]; exact h.c1
  have d2 : (((w2.setCell ⟨xb, 0, none⟩ (.slice (some ⟨w2.heap.size, 0, none⟩) n n)).setCell ⟨xb, 1, none⟩ (.slice none 0 0)).setCell ⟨xb, 2, none⟩ (.slice none 0 0)).cell? ⟨xb, 2, none⟩ = some (.slice none 0 0) := by
    rw [World.cell?_setCell_same _ _ _ (u := .slice none 0 0)]
    rw [World.cell?_setCell_other _ _ _ _ (by simp), World.cell?_setCell_other _ _ _ _ (by simp)]; exact h.c2
  generalize ((w2.setCell ⟨xb, 0, none⟩ (.slice (some ⟨w2.heap.size, 0, none⟩) n n)).setCell ⟨xb, 1, none⟩ (.slice none 0 0)).setCell ⟨xb, 2, none⟩ (.slice none 0 0) = W at *
  have hK2 : Grew W (W.alloc (.cells (madeCells #[.int .u8 0] n) 5)) := (Kept.refl _ W).alloc _
  have hxW : xb < W.heap.size := by rw [hsz]; exact h.lx
  refine ⟨(hK2.cell xb 0 hxW fun h => h).trans d0, (hK2.cell xb 1 hxW fun h => h).trans d1, (hK2.cell xb 2 hxW fun h => h).trans d2, fun o ho => (hK2.frozen xb o hxW).trans ((hK.frozen xb o h.lx).trans (h.f o ho)), ?_, hK.trans' hK2 fun _ _ _ h => h.elim, by rw [World.size_alloc, hsz], h.lx⟩
  have := By.made W n
  rwa [hsz] at this
theorem own_new {w2 W : World} {xb tb sb n : Nat} (h : New1 w2 W xb n) (hn : n ≤ 1073741824) : Made w2 ((W.setCell ⟨xb, 1, none⟩ (.slice (some ⟨W.heap.size, 0, none⟩) n n)).alloc (.cells (madeCells #[.int .i32 0] n) 21)) xb tb sb w2.heap.size W.heap.size n n (some ⟨w2.heap.size, 0, none⟩) := by
  have hxW : xb < W.heap.size := by rw [h.s]; have := h.x; omega
  have hK1 : Kept (fun x _ => x = xb) W (W.setCell ⟨xb, 1, none⟩ (.slice (some ⟨W.heap.size, 0, none⟩) n n)) := (Kept.refl (fun x _ => x = xb) W).set _ rfl
  have d1 := World.cell?_setCell_same W ⟨xb, 1, none⟩ (.slice (some ⟨W.heap.size, 0, none⟩) n n) h.c1
  have d0 : (W.setCell ⟨xb, 1, none⟩ (.slice (some ⟨W.heap.size, 0, none⟩) n n)).cell? ⟨xb, 0, none⟩ = some (.slice (some ⟨w2.heap.size, 0, none⟩) n n) := by rw [World.cell?_setCell_other _ _ _ _ (by simp)]; exact h.c0
  have d2 : (W.setCell ⟨xb, 1, none⟩ (.slice (some ⟨W.heap.size, 0, none⟩) n n)).cell? ⟨xb, 2, none⟩ = some (.slice none 0 0) := by rw [World.cell?_setCell_other _ _ _ _ (by simp)]; exact h.c2
  have hsz : (W.setCell ⟨xb, 1, none⟩ (.slice (some ⟨W.heap.size, 0, none⟩) n n)).heap.size = W.heap.size := World.size_setCell _ _ _
  have hx := h.x
  have hb1 : By (W.setCell ⟨xb, 1, none⟩ (.slice (some ⟨W.heap.size, 0, none⟩) n n)) w2.heap.size 0 (List.replicate n 0) := h.b.kept hK1 fun j _ hh => by omega
  generalize W.setCell ⟨xb, 1, none⟩ (.slice (some ⟨W.heap.size, 0, none⟩) n n) = V at *
  have hK2 : Grew V (V.alloc (.cells (madeCells #[.int .i32 0] n) 21)) := (Kept.refl _ V).alloc _
  have hxV : xb < V.heap.size := by omega
  have hs := h.s
  have hH := Hold.made .i32 V 21 n
  rw [hsz] at hH
  have hsa : (V.alloc (.cells (madeCells #[.int .i32 0] n) 21)).heap.size = V.heap.size + 1 := by rw [World.size_alloc]
  refine ⟨⟨(hK2.cell xb 0 hxV fun h => h).trans d0, (hK2.cell xb 1 hxV fun h => h).trans d1, (hK2.cell xb 2 hxV fun h => h).trans d2, fun o ho => (hK2.frozen xb o hxV).trans ((hK1.frozen xb o hxW).trans (h.f o ho)), .inl rfl, ⟨List.replicate n 0, ?_, List.length_replicate⟩, ⟨_, hH⟩, Nat.le_refl _, hn, by omega, by omega, by omega, by omega, by omega, fun _ => by omega⟩, (h.k.trans' hK1 fun _ _ _ h => h).trans' hK2 fun _ _ _ h => h.elim, .inr ⟨Nat.le_refl _, by omega⟩⟩
  have := hb1.kept hK2 fun _ _ h => h
  unfold By at this
  rwa [List.length_replicate] at this
/-- The reading of the data. -/
def RdtPost (RS : List UInt8 → World → Prop) (D : Nat → Prop) (B s2 : List UInt8) (xb tb sb c n : Nat) (d : Option Addr) (w : World) (e : Ending) (w' : World) : Prop :=
  e = .returned (.tuple #[.int .i64 (n : Nat), .nilIface]) ∧ RS s2 w' ∧ By w' tb 0 B ∧ Kept (fun x _ => D x ∨ x = tb) w w' ∧ Own w' xb tb sb c n d
theorem read_data {t : TypeId} {rp : Option Addr} {F : Nat} {RS : List UInt8 → World → Prop} {D : Nat → Prop} (R : Rdr t rp F RS D) {B s2 : List UInt8} {xb tb sb c n : Nat} {d : Option Addr} {w : World} (hO : Own w xb tb sb c n d) (hS : RS (B ++ s2) w) (hB : B.length = n) (hDt : ¬ D tb) (hDx : ¬ D xb) (hDs : ¬ D sb) :
    Calls Tryd.prog 17 #[.iface t (.pointer rp), .slice d n c] w (RdtPost RS D B s2 xb tb sb c n d w) := by
  by_cases h0 : n = 0
  · subst h0
    have hB0 : B = [] := List.length_eq_zero_iff.1 hB
    subst hB0
    refine (readFull_none t rp d c w).mono ?_
    rintro e w' ⟨rfl, rfl⟩
    exact ⟨rfl, hS, fun j hj => by simp at hj, Kept.refl _ _, hO⟩
  · have hnc := hO.nc
    have hcb := hO.cb
    have hd : d = some ⟨tb, 0, none⟩ := by
      rcases hO.hd with h | ⟨_, h⟩
      · exact h
      · omega
    subst hd
    obtain ⟨f, hf, hfl⟩ := hO.ht
    have hBy : By w tb 0 (f.take n ++ f.drop n) := by rw [List.take_append_drop]; unfold By; rw [hfl]; exact hf
    have hfn : (f.take n).length = n := by rw [List.length_take]; omega
    have h := readFull_any R (B ++ s2) (f.take n) tb 0 c w hS hBy.left (by rw [List.length_append, hfn]; omega) (by omega) (by omega) hDt
    rw [hfn] at h
    refine h.mono ?_
    rintro e w' ⟨he, h1, h2, h3⟩
    rw [hfn] at he h1 h2 h3
    rw [List.drop_left' hB] at h1
    rw [List.take_left' hB] at h2
    have h4 := hBy.right.kept h3 fun j hj hh => hh.elim hDt fun hh => by rw [hfn] at hh; have := hh.2.2; omega
    have h5 : By w' tb 0 (B ++ f.drop n) := By.join h2 (by rw [hB]; rw [hfn] at h4; exact h4)
    have h6 : (B ++ f.drop n).length = c := by rw [List.length_append, List.length_drop]; omega
    have hK : Kept (fun x _ => D x ∨ x = tb) w w' := h3.mono fun x y _ hh => hh.imp id fun hh => hh.1
    obtain ⟨f', hf'⟩ := hO.hs
    have hnx : ∀ o, ¬ (D xb ∨ In tb 0 n xb o) := fun o hh => hh.elim hDx fun hh => hO.n1 hh.1
    refine ⟨he, h1, h2, hK, ⟨(h3.cell xb 0 hO.lx (hnx 0)).trans hO.c0, (h3.cell xb 1 hO.lx (hnx 1)).trans hO.c1, (h3.cell xb 2 hO.lx (hnx 2)).trans hO.c2, fun o ho => (h3.frozen xb o hO.lx).trans (hO.f o ho), hO.hd, ⟨_, by unfold By at h5; rw [h6] at h5; exact h5, h6⟩, ⟨f', hf'.kept h3 fun j hj hh => hh.elim hDs fun hh => hO.n3 (by omega) hh.1.symm⟩, hnc, hcb, Nat.lt_of_lt_of_le hO.lx h3.size, Nat.lt_of_lt_of_le hO.lt h3.size, Nat.lt_of_lt_of_le hO.ls h3.size, hO.n1, hO.n2, hO.n3⟩⟩
/-- The relation of the loop: i numbers are read. -/
def RxRel (RS : List UInt8 → World → Prop) (D : Nat → Prop) (rest : List UInt8) (l : List Nat) (k ab sb c : Nat) (f0 : Nat → Int) (w wr : World) : Prop :=
  ∃ (i so' : Nat) (h b : List UInt8), i ≤ l.length ∧ Hid (i < l.length → so' = i) ∧ wr.cell? ⟨ab, 0, none⟩ = some (.slice (some ⟨sb, so', none⟩) (l.length - i) (c - i)) ∧ wr.cell? ⟨ab, 1, none⟩ = some (.slice none 0 0) ∧ wr.frozen? ⟨ab, 0, none⟩ = false ∧ wr.frozen? ⟨ab, 1, none⟩ = false ∧
    Hid (RS (chunks h (l.drop i) ++ rest) wr) ∧ Hid (h.length = 10) ∧ Hid (By wr k 0 b ∧ b.length = 16384) ∧ Hid (Hold .i32 wr sb 0 c (fun j => if j < i then ((l.getD j 0 : Nat) : Int) else f0 j)) ∧ Hid (Kept (fun x _ => D x ∨ x = k ∨ x = ab ∨ x = sb) w wr)
theorem rx_step {t : TypeId} {rp : Option Addr} {F : Nat} {RS : List UInt8 → World → Prop} {D : Nat → Prop} (R : Rdr t rp F RS D) {rest h : List UInt8} {l : List Nat} {k ab sb c i so'' : Nat} {f0 : Nat → Int} {w wr w4 w5 : World} {e : Ending} (hi : i < l.length) (hlc : l.length ≤ c) (hh : h.length = 10) (hl : ∀ x ∈ l, x < 4294967296) (hka : k ≠ ab) (hsa : sb ≠ ab) (hks : k ≠ sb) (hDk : ¬ D k) (hDa : ¬ D ab) (hDs : ¬ D sb)
    (c0 : (wr.cell? ⟨ab, 0, none⟩).isSome) (c1 : (wr.cell? ⟨ab, 1, none⟩).isSome) (f0' : wr.frozen? ⟨ab, 0, none⟩ = false) (f1' : wr.frozen? ⟨ab, 1, none⟩ = false) (hH : Hold .i32 wr sb 0 c (fun j => if j < i then ((l.getD j 0 : Nat) : Int) else f0 j)) (hK : Kept (fun x _ => D x ∨ x = k ∨ x = ab ∨ x = sb) w wr)
    (hp : RsPost RS D h rest (l.drop i) k sb i (l.length - i) (fun j => f0 (i + j)) wr e w4) (hso : fit 10 (l.drop i) < l.length - i → so'' = i + fit 10 (l.drop i)) (h5 : Grew w4 w5) :
    RxRel RS D rest l k ab sb c f0 w ((w5.setCell ⟨ab, 0, none⟩ (.slice (some ⟨sb, so'', none⟩) (l.length - i - fit 10 (l.drop i)) (c - i - fit 10 (l.drop i)))).setCell ⟨ab, 1, none⟩ (.slice none 0 0)) := by
  obtain ⟨_, hS, ⟨b, hB, hb⟩, hH4, hK4⟩ := hp
  have hf := fit_le (l.drop i) 10
  rw [List.length_drop] at hf
  have haw : ab < wr.heap.size := by
    obtain ⟨v, hv⟩ := Option.isSome_iff_exists.1 c0
    exact World.block_lt_of_cell? wr _ hv
  have hK45 := hK4.trans' h5 fun _ _ _ h => h.elim
  have hnS : ∀ o, ¬ SR D k sb i (l.length - i) ab o := fun o hh => by
    rcases hh with (hh | hh) | hh
    · exact hDa hh
    · exact hka hh.symm
    · exact hsa hh.1.symm
  have e0 : (w5.cell? ⟨ab, 0, none⟩).isSome := by rw [hK45.cell ab 0 haw (hnS 0)]; exact c0
  have e1 : (w5.cell? ⟨ab, 1, none⟩).isSome := by rw [hK45.cell ab 1 haw (hnS 1)]; exact c1
  obtain ⟨v0, e0⟩ := Option.isSome_iff_exists.1 e0
  obtain ⟨v1, e1⟩ := Option.isSome_iff_exists.1 e1
  have hH5 : Hold .i32 w5 sb 0 c (fun j => if j < i + fit 10 (l.drop i) then ((l.getD j 0 : Nat) : Int) else f0 j) := fun j hj => by
    dsimp only
    by_cases h1 : j < i
    · rw [if_pos (by omega)]
      have h2 := (hH.head (m := i) (by omega)).kept hK45 (fun j' hj' hx => by
        rcases hx with (hx | hx) | hx
        · exact hDs hx
        · exact hks hx.symm
        · have := hx.2.1; omega) j h1
      dsimp only at h2
      rwa [if_pos h1] at h2
    · by_cases h2 : j < l.length
      · obtain ⟨m, rfl⟩ : ∃ m, j = i + m := ⟨j - i, by omega⟩
        have h3 := (hH4.kept h5 fun _ _ h => h) m (by omega)
        dsimp only at h3
        rw [show 0 + (i + m) = i + m by omega]
        by_cases h4 : m < fit 10 (l.drop i)
        · rw [if_pos h4] at h3
          rw [if_pos (by omega)]
          simpa using h3
        · rw [if_neg h4] at h3
          rw [if_neg (by omega)]
          exact h3
      · rw [if_neg (by omega)]
        have h3 := hH j hj
        dsimp only at h3
        rw [if_neg h1] at h3
        have hsw : sb < wr.heap.size := World.block_lt_of_cell? wr _ h3.1
        have hn2 : ¬ SR D k sb i (l.length - i) sb (0 + j) := fun hx => by
          rcases hx with (hx | hx) | hx
          · exact hDs hx
          · exact hks hx.symm
          · have := hx.2.2; omega
        rw [hK45.cell sb _ hsw hn2, hK45.frozen sb _ hsw]; exact h3
  have hK6 : Kept (fun x _ => x = ab) w5 ((w5.setCell ⟨ab, 0, none⟩ (.slice (some ⟨sb, so'', none⟩) (l.length - i - fit 10 (l.drop i)) (c - i - fit 10 (l.drop i)))).setCell ⟨ab, 1, none⟩ (.slice none 0 0)) := ((Kept.refl (fun x _ => x = ab) w5).set _ rfl).set _ rfl
  refine ⟨i + fit 10 (l.drop i), so'', head h (l.drop i), b, by omega, (fun hlt => hso (by omega)), ?_, ?_, ?_, ?_, ?_, head_len _ hh fun x hx => hl x (List.mem_of_mem_drop hx), ⟨(hB.kept h5 fun _ _ h => h).kept hK6 fun j _ hx => hka hx, hb⟩, hH5.kept hK6 fun j _ hx => hsa hx, ?_⟩
  · rw [World.cell?_setCell_other _ _ _ _ (by simp), World.cell?_setCell_same _ _ _ e0, ← Nat.sub_sub, ← Nat.sub_sub]
  · rw [World.cell?_setCell_same _ _ _ (u := v1)]
    rw [World.cell?_setCell_other _ _ _ _ (by simp)]; exact e1
  · rw [World.frozen?_setCell, World.frozen?_setCell, hK45.frozen ab 0 haw]; exact f0'
  · rw [World.frozen?_setCell, World.frozen?_setCell, hK45.frozen ab 1 haw]; exact f1'
  · show RS _ _
    rw [← List.drop_drop]
    exact R.kept (R.kept hS h5 fun _ _ _ h => h) hK6 fun x o hx hh => hDa (by rw [← hh]; exact hx)
  · refine (hK.trans' hK45 fun x o _ hx => ?_).trans' hK6 fun x o _ hx => .inr (.inr (.inl hx))
    rcases hx with (hx | hx) | hx
    · exact .inl hx
    · exact .inr (.inl hx)
    · exact .inr (.inr (.inr hx.1))
/-- What Read leaves. -/
def IrPost (RS : List UInt8 → World → Prop) (D : Nat → Prop) (rest : List UInt8) (xb tb sb n : Nat) (T : Nat → Nat) (sa : Nat → Int) (w : World) (e : Ending) (w' : World) : Prop :=
  e = .returned .nilIface ∧ ∃ tb' sb' c' d', Own w' xb tb' sb' c' n d' ∧ Ix w' xb T n (.slice d' n c') tb' 0 c' sb' 0 c' sa ∧ RS rest w' ∧ Kept (OX D xb tb sb) w w' ∧ (tb' = tb ∧ sb' = sb ∨ w.heap.size < tb' ∧ w.heap.size < sb')
end Go.Proofs.YtoebcbmkkhbldaaDoor
