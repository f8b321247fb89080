/- Looking up in an index whose array has room for more. -/
import Derived.Test.YtoebcbmkkhbldaaDoorA6
set_option linter.unusedVariables false
namespace Go.Proofs.YtoebcbmkkhbldaaDoor
open Go.RowKit Go.Mem Sais
set_option maxRecDepth 100000

theorem ints_slice_c (xb o n c sb so i j : Nat) (w : World) (hn : n ≤ 1073741824) (hij : i ≤ j) (hjn : j ≤ n) (hc : n ≤ c) (c1 : w.cell? ⟨xb, o, none⟩ = some (.slice (some ⟨sb, so, none⟩) n c)) :
    Calls Tryd.prog 15 #[.pointer (some ⟨xb, o, none⟩), .int .i64 i, .int .i64 j] w (IPost (.agg #[.slice (some ⟨sb, offI c so i, none⟩) (j - i) (c - i), .slice none 0 0]) w) := by
  by_cases h : i < c
  · unfold offI; rw [if_pos h]
    exact ints_slice_in xb o n c sb so i j w hn hij hjn hc h c1
  · obtain rfl : i = n := by omega
    obtain rfl : j = i := by omega
    obtain rfl : c = j := by omega
    unfold offI; rw [if_neg h, Nat.sub_self]
    exact ints_slice_end xb o c sb so w hn c1
/-- What lookupAll knows of its world. -/
structure LAc (c : Nat) (w wr : World) (xb p : Nat) (T : Nat → Nat) (n : Nat) (dv : Value) (tb tx tc sb so : Nat) (sa : Nat → Int) (g : Nat → Nat) (k : Nat) (sv : Value) : Prop where
  ix : Ix wr xb T n dv tb tx tc sb so c sa
  s : ByteV g k wr sv
  d1 : wr.cell? ⟨p, 0, none⟩ = some (.pointer (some ⟨xb, 0, none⟩))
  d2 : wr.cell? ⟨p + 1, 0, none⟩ = some sv
  d4 : wr.cell? ⟨p + 2, 0, none⟩ = some (.slice none 0 0)
  d5 : wr.cell? ⟨p + 2, 1, none⟩ = some (.slice none 0 0)
  f4 : wr.frozen? ⟨p + 2, 0, none⟩ = false
  f5 : wr.frozen? ⟨p + 2, 1, none⟩ = false
  grew : Grew w wr
theorem LAc.of {c : Nat} {w w1 wr : World} {xb p : Nat} {T : Nat → Nat} {n : Nat} {dv : Value} {tb tx tc sb so : Nat} {sa : Nat → Int} {g : Nat → Nat} {k : Nat} {sv : Value} (h : LAc c w w1 xb p T n dv tb tx tc sb so sa g k sv) (hk : Grew w1 wr) : LAc c w wr xb p T n dv tb tx tc sb so sa g k sv := by
  have b1 := World.block_lt_of_cell? w1 _ h.d1
  have b2 := World.block_lt_of_cell? w1 _ h.d2
  have b4 := World.block_lt_of_cell? w1 _ h.d4
  exact ⟨h.ix.grew hk, Grew.byteV h.s hk, (hk.cell _ 0 b1 fun h => h).trans h.d1, (hk.cell _ 0 b2 fun h => h).trans h.d2, (hk.cell _ 0 b4 fun h => h).trans h.d4, (hk.cell _ 1 b4 fun h => h).trans h.d5, (hk.frozen _ 0 b4).trans h.f4, (hk.frozen _ 1 b4).trans h.f5, h.grew.trans hk⟩
theorem LAc.first {c : Nat} {w : World} {xb : Nat} {T : Nat → Nat} {n : Nat} {dv : Value} {tb tx tc sb so : Nat} {sa : Nat → Int} {g : Nat → Nat} {k : Nat} {d : Option Addr} {x : Nat} (H : Ix w xb T n dv tb tx tc sb so c sa) (hs : ByteV g k w (.slice d k x)) (t1 t2 t3 : Nat) :
    LAc c w (((w.alloc (.cells #[.pointer (some ⟨xb, 0, none⟩)] t1)).alloc (.cells #[.slice d k x] t2)).alloc (.cells #[.slice none 0 0, .slice none 0 0] t3)) xb w.heap.size T n dv tb tx tc sb so sa g k (.slice d k x) := by
  have hk : Grew w (((w.alloc (.cells #[.pointer (some ⟨xb, 0, none⟩)] t1)).alloc (.cells #[.slice d k x] t2)).alloc (.cells #[.slice none 0 0, .slice none 0 0] t3)) := (((Kept.refl _ w).alloc _).alloc _).alloc _
  have hz : w.heap.size + 2 = ((w.alloc (.cells #[.pointer (some ⟨xb, 0, none⟩)] t1)).alloc (.cells #[.slice d k x] t2)).heap.size := by simp
  have hz1 : w.heap.size + 1 = (w.alloc (.cells #[.pointer (some ⟨xb, 0, none⟩)] t1)).heap.size := by simp
  refine ⟨H.grew hk, Grew.byteV hs hk, ?_, ?_, ?_, ?_, ?_, ?_, hk⟩
  · rw [World.cell?_alloc_lt _ _ _ (by simp; omega), World.cell?_alloc_lt _ _ _ (by simp), World.cell?_alloc_new]; rfl
  · rw [World.cell?_alloc_lt _ _ _ (by simp), hz1, World.cell?_alloc_new]; rfl
  · rw [hz, World.cell?_alloc_new]; rfl
  · rw [hz, World.cell?_alloc_new]; rfl
  · rw [hz, World.frozen?_alloc_new]
  · rw [hz, World.frozen?_alloc_new]
set_option maxHeartbeats 4000000 in
theorem lookup_all_c (c xb n tb tx tc sb so k : Nat) (T g : Nat → Nat) (sa : Nat → Int) (dv sv : Value) (w : World) (H : Ix w xb T n dv tb tx tc sb so c sa) (hg : ∀ j, j < k → g j < 256) (hs : ByteV g k w sv) (hk : ∃ d x, sv = .slice d k x) (hk2' : k ≤ 1073741824) :
    Calls Tryd.prog 19 #[.pointer (some ⟨xb, 0, none⟩), sv] w (IPost (.agg #[.slice (some ⟨sb, offI c so (from1 T n sa g k), none⟩) (many2 T n sa g k) (c - from1 T n sa g k), .slice none 0 0]) w) := by
  have hn := H.hn
  have hcc := H.sc
  have HH := Lib.hid H; have HS := Lib.hid hs; have HG := Lib.hid hg
  clear hs hg H
  obtain ⟨d, x, rfl⟩ := hk
  go_enter Tryd.func19, Tryd.ntmps19
  go_wp2_with fail
  have HL := Lib.hid (LAc.first HH.out HS.out 35 28 46)
  have hsz : (((w.alloc (.cells #[.pointer (some ⟨xb, 0, none⟩)] 35)).alloc (.cells #[.slice d k x] 28)).alloc (.cells #[.slice none 0 0, .slice none 0 0] 46)).heap.size = w.heap.size + 3 := by simp
  generalize hw1 : ((w.alloc (.cells #[.pointer (some ⟨xb, 0, none⟩)] 35)).alloc (.cells #[.slice d k x] 28)).alloc (.cells #[.slice none 0 0, .slice none 0 0] 46) = w1 at *
  clear hw1
  rw [show w.heap.size + 1 + 1 = w.heap.size + 2 by omega]
  generalize hp : w.heap.size = p at *
  have d1 := HL.out.d1
  have HC1 := Lib.hid (fun u (hu : Grew w1 u) => ints_len xb 1 n c (some ⟨sb, so, none⟩) u hn (HL.out.of hu).ix.c1 (HL.out.of hu).ix.c2)
  have HC2 := Lib.hid (fun u (hu : Grew w1 u) => search1_ix (HL.out.of hu).ix HG.out (HL.out.of hu).d1 (HL.out.of hu).d2 (HL.out.of hu).s)
  go_wp2_with (first | (go_at_call 13; refine (HC1.out _ (Kept.refl _ _)).mono ?_; rintro e w' ⟨rfl, m1, rfl⟩) | (go_at_call 29; refine (HC2.out _ ((Kept.refl _ _).drewN _)).mono ?_; rintro e w' ⟨rfl, m2, rfl⟩))
  generalize m1 + m2 = q
  clear HC1 HC2 d1
  have hk2 : Grew w1 ((w1.drewN q).alloc (.cells #[.int .i64 (from1 T n sa g k : Nat)] 3)) := ((Kept.refl _ w1).drewN q).alloc _
  have d3 : ((w1.drewN q).alloc (.cells #[.int .i64 (from1 T n sa g k : Nat)] 3)).cell? ⟨p + 3, 0, none⟩ = some (.int .i64 (from1 T n sa g k : Nat)) := by
    rw [← hsz, show w1.heap.size = (w1.drewN q).heap.size from rfl, World.cell?_alloc_new]; rfl
  have HL2 := Lib.hid (HL.out.of hk2)
  clear HL hk2 hsz
  generalize (w1.drewN q).alloc (.cells #[.int .i64 (from1 T n sa g k : Nat)] 3) = w2 at *
  have hf : from1 T n sa g k ≤ n := from1_le
  have hm : from1 T n sa g k + many2 T n sa g k ≤ n := by have := many2_le (T := T) (n := n) (sa := sa) (g := g) (k := k); omega
  have HC1 := Lib.hid (fun q => ints_len xb 1 n c (some ⟨sb, so, none⟩) (w2.drewN q) hn HL2.out.ix.c1 HL2.out.ix.c2)
  have HC2 := Lib.hid (fun q => search2_ix (HL2.out.of ((Kept.refl _ w2).drewN q)).ix HG.out (HL2.out.of ((Kept.refl _ w2).drewN q)).d1 d3 (HL2.out.of ((Kept.refl _ w2).drewN q)).d2 (HL2.out.of ((Kept.refl _ w2).drewN q)).s ⟨_, _, rfl⟩ hk2')
  have HC3 := Lib.hid (fun u (hu : Grew w2 u) => ints_slice_c xb 1 n c sb so (from1 T n sa g k) (from1 T n sa g k + many2 T n sa g k) u hn (Nat.le_add_right _ _) hm hcc (HL2.out.of hu).ix.c1)
  rw [Nat.add_sub_cancel_left] at HC3
  have d1 := HL2.out.d1
  generalize from1 T n sa g k = f at *
  generalize many2 T n sa g k = z at *
  obtain ⟨r, hr⟩ : ∃ r, n - f = r := ⟨_, rfl⟩
  obtain ⟨y, hy⟩ : ∃ y, f + z = y := ⟨_, rfl⟩
  rw [hr] at HC2
  rw [hy] at HC3
  have e1 : IntKind.i64.wrap ((n : Int) - (f : Int)) = (r : Int) := by rw [IntWalk.i64_in _ (by omega)]; omega
  have e2 : IntKind.i64.wrap ((f : Int) + (z : Int)) = (y : Int) := by rw [IntWalk.i64_in _ (by omega)]; omega
  clear hr hy hm hf
  go_quiet (first | (go_at_call 13; exact Calls.quiet_of (HC1.out _)) | (go_at_call 29; exact Calls.quiet_of (HC2.out _)))
  clear HC1 HC2 e1 e2
  go_wp2_with fail
  have HL3 := Lib.hid (HL2.out.of ((Kept.refl _ w2).drewN nq))
  replace d3 : (w2.drewN nq).cell? ⟨p + 3, 0, none⟩ = some (.int .i64 (f : Nat)) := d3
  have HC4 := Lib.hid (HC3.out (w2.drewN nq).drew ((Kept.refl _ w2).drewN nq).drew)
  clear d1 HL2 HC3
  generalize w2.drewN nq = w3 at *
  have d1 := HL3.out.d1
  go_still_tail 5, (by kernel_rfl)
  change wpList _ _ _ _ _ w3.drew
  have HL4 := Lib.hid (HL3.out.of (Kept.refl _ w3).drew)
  clear d1 HL3 d3
  generalize w3.drew = w4 at *
  go_wp2_with (go_at_call 15; refine HC4.out.mono ?_; rintro e w5 ⟨rfl, hk5⟩; have HL5 := Lib.hid (HL4.out.of hk5); clear hk5 HL4 HC4; have d4 := HL5.out.d4; have d5 := HL5.out.d5; have f4 := HL5.out.f4; have f5 := HL5.out.f5)
  refine bodyPost_ret (v := .agg #[.slice (some ⟨sb, offI c so f, none⟩) z (c - f), .slice none 0 0]) (by simp [results, Tryd.results19, go_sem, *]) rfl ⟨rfl, ?_⟩
  exact HL5.out.grew.trans' (((Kept.refl (fun b _ => p ≤ b) w5).set _ (by omega)).set _ (by omega)) fun x o hx hh => by omega
set_option maxHeartbeats 4000000 in
theorem lookup_ix_c (cc xb n tb tx tc sb so k : Nat) (T g : Nat → Nat) (sa : Nat → Int) (dv sv : Value) (m : Int) (w : World) (H : Ix w xb T n dv tb tx tc sb so cc sa) (hg : ∀ j, j < k → g j < 256) (hs : ByteV g k w sv) (hk : ∃ d x, sv = .slice d k x) (hk2 : k ≤ 1073741824) (hm1 : -9223372036854775808 ≤ m) (hm2 : m < 9223372036854775808) :
    Calls Tryd.prog 8 #[.pointer (some ⟨xb, 0, none⟩), sv, .int .i64 m] w (LPost (lim (many2 T n sa g k) k m) (fun j => sa (from1 T n sa g k + j)) w) := by
  have hn := H.hn
  have hcc := H.sc
  have HC := Lib.hid (lookup_all_c cc xb n tb tx tc sb so k T g sa dv sv w H hg hs hk hk2)
  have hf : from1 T n sa g k ≤ n := from1_le
  have hz : from1 T n sa g k + many2 T n sa g k ≤ n := by have := many2_le (T := T) (n := n) (sa := sa) (g := g) (k := k); omega
  obtain ⟨d, x, rfl⟩ := hk
  have HS : Hid (Rd .i32 w sb (offI cc so (from1 T n sa g k)) (many2 T n sa g k) (fun j => sa (from1 T n sa g k + j))) := fun j hj => by
    have := H.s (from1 T n sa g k + j) (by omega)
    unfold offI; rw [if_pos (by omega), Nat.add_assoc]; exact this
  have HV : Hid (∀ j, j < many2 T n sa g k → 0 ≤ sa (from1 T n sa g k + j) ∧ sa (from1 T n sa g k + j) < 1073741824) := fun j hj => by
    have := H.isa.lt (show from1 T n sa g k + j < n by omega); omega
  generalize from1 T n sa g k = f at *
  generalize many2 T n sa g k = z at *
  generalize hff : (fun j => sa (f + j)) = F at *
  replace HV : Hid (∀ j, j < z → 0 ≤ F j ∧ F j < 1073741824) := by subst hff; exact HV
  clear hff H hs hg
  generalize offI cc so f = o at *
  by_cases h0 : k = 0 ∨ m = 0
  · unfold lim; rw [if_pos h0]
    go_enter Tryd.func8, Tryd.ntmps8
    by_cases h1 : k = 0
    · subst h1
      go_wp2
      go_ret
      exact LPost.nil (Kept.refl _ w) rfl
    · have h2 : m = 0 := by omega
      have h3 : 0 < (k : Int) := by omega
      subst h2
      go_wp2
      go_ret
      exact LPost.nil (Kept.refl _ w) rfl
  · obtain ⟨c, hc⟩ : ∃ c, lim z k m = c := ⟨_, rfl⟩
    rw [hc]
    unfold lim at hc
    rw [if_neg h0] at hc
    have HCC := Lib.hid hc
    have hcz : c ≤ z := by split at hc <;> omega
    clear hc
    have h3 : 0 < (k : Int) := by omega
    have h4 : (m != 0) = true := by simp; omega
    clear h0
    go_enter Tryd.func8, Tryd.ntmps8
    go_wp2_with (first | (go_at_call 19; refine HC.out.mono ?_; rintro e w1 ⟨rfl, hk1⟩))
    have hk2' : Grew w1 (w1.alloc (.cells #[.slice (some ⟨sb, o, none⟩) z (cc - f), .slice none 0 0] 46)) := (Kept.refl _ w1).alloc _
    have c0 : (w1.alloc (.cells #[.slice (some ⟨sb, o, none⟩) z (cc - f), .slice none 0 0] 46)).cell? ⟨w1.heap.size, 0, none⟩ = some (.slice (some ⟨sb, o, none⟩) z (cc - f)) := by
      rw [World.cell?_alloc_new]; rfl
    have c1 : (w1.alloc (.cells #[.slice (some ⟨sb, o, none⟩) z (cc - f), .slice none 0 0] 46)).cell? ⟨w1.heap.size, 1, none⟩ = some (.slice none 0 0) := by
      rw [World.cell?_alloc_new]; rfl
    have hK := Lib.hid (hk1.trans hk2')
    have HS2 := Lib.hid (HS.out.kept (hk1.trans hk2') fun _ _ h => h)
    clear hk1 hk2' HC HS
    generalize w1.alloc (.cells #[.slice (some ⟨sb, o, none⟩) z (cc - f), .slice none 0 0] 46) = w2 at *
    generalize w1.heap.size = p at *
    have HC1 := ints_len p 0 z (cc - f) (some ⟨sb, o, none⟩) w2 (by omega) c0 c1
    refine HC1.mono ?_
    rintro e w3 ⟨rfl, q, rfl⟩
    clear HC1
    replace c0 : (w2.drewN q).cell? ⟨p, 0, none⟩ = some (.slice (some ⟨sb, o, none⟩) z (cc - f)) := c0
    replace hK := Lib.hid (hK.out.drewN q)
    replace HS2 := Lib.hid (HS2.out.drewN q)
    clear c1
    generalize w2.drewN q = w3 at *
    go_upto_region 4 with fail
    go_cut [28] (fun v wx => ∃ b : Bool, v = .bool b ∧ w3 = wx ∧ Hid (b = true ↔ (m < 0 ∨ (z : Int) < m)))
    case first =>
      by_cases hm : m < 0
      · go_wp2
        go_meet
        exact ⟨_, rfl, rfl, by show _ ↔ _; simp; omega⟩
      · have hm' : decide (m < 0) = false := by simp; omega
        go_wp2
        go_meet
        exact ⟨_, rfl, rfl, by show _ ↔ _; simp; omega⟩
    case rest =>
      obtain ⟨b, rfl, rfl, HB⟩ := hcut
      go_upto_if 28 with fail
      go_cut [2] (fun v wx => v = .int .i64 (c : Nat) ∧ w3 = wx)
      case first =>
        cases b
        · go_wp2
          go_meet
          exact ⟨by rw [limF HCC.out HB.out], rfl⟩
        · go_wp2
          go_meet
          exact ⟨by rw [limT HCC.out HB.out], rfl⟩
      case rest =>
        obtain ⟨rfl, rfl⟩ := hcut
        clear HCC HB
        by_cases hc0 : c = 0
        · subst hc0
          go_wp2
          go_ret
          exact LPost.nil hK.out rfl
        · have hc1 : 0 < (c : Int) := by omega
          have hmk := fun u => Tryd.makeInt u c (by omega)
          have hpb := World.block_lt_of_cell? w3 _ c0
          have hpb' : p ≠ w3.heap.size := Nat.ne_of_lt hpb
          have q1 := Tryd.neq77s
          go_wp2
          have hk4 : Grew w3 (w3.alloc (.cells (madeCells #[.int .i64 0] c) 3)) := (Kept.refl _ w3).alloc _
          have hH := Hold.made .i64 w3 3 c
          have HSx := Lib.hid (HS2.out.kept hk4 fun _ _ h => h)
          have hK4 := Lib.hid (hK.out.trans hk4)
          have hsz := hK.out.size
          have c4 : (w3.alloc (.cells (madeCells #[.int .i64 0] c) 3)).cell? ⟨p, 0, none⟩ = some (.slice (some ⟨sb, o, none⟩) z (cc - f)) := (hk4.cell _ 0 hpb fun h => h).trans c0
          have hsb : sb ≠ w3.heap.size := fun h => by have := HS2.out.lt (by omega); omega
          clear hk4 hmk hpb c0 HS2 hK
          generalize w3.alloc (.cells (madeCells #[.int .i64 0] c) 3) = w4 at *
          generalize w3.heap.size = rb at *
          go_loopw [9, 39] (fun _ is wr => ∃ i, i ≤ c ∧ is = .int .i64 (i : Nat) ∧ Hid (Hold .i64 wr rb 0 c (fun j => if j < i then F j else 0)) ∧ Hid (Kept (In rb 0 c) w4 wr)) (fun _ is _ => c - (intOf is).toNat)
          case atStart => exact ⟨0, by omega, rfl, hH.congr fun j hj => by simp, Kept.refl _ _⟩
          case round =>
            clear hH
            obtain ⟨i, hi, rfl, HH, HK⟩ := hrel
            have hps : ¬ In rb 0 c p 0 := fun h => hpb' h.1
            have cp : wr.cell? ⟨p, 0, none⟩ = some (.slice (some ⟨sb, o, none⟩) z (cc - f)) := (HK.out.cell p 0 (World.block_lt_of_cell? w4 _ c4) hps).trans c4
            clear hps
            by_cases hlt : i < c
            · have hlt' : (i : Int) < (c : Int) := by omega
              have hlz : (i : Int) < (z : Int) := by omega
              have ci : wr.cell? ⟨sb, o + i, none⟩ = some (.int .i32 (F i)) := (HSx.out.kept HK.out (fun j hj h => hsb h.1)) i (by omega)
              obtain ⟨cr, fr⟩ := HH.out i hlt
              simp only [Nat.lt_irrefl, if_false, Nat.zero_add] at cr
              rw [Nat.zero_add] at fr
              obtain ⟨v0, v1⟩ := HV.out i (by omega)
              have hset : Hid (Hold .i64 (wr.setCell ⟨rb, i, none⟩ (.int .i64 (F i))) rb 0 c (fun j => if j < i + 1 then F j else 0)) := by
                have h := HH.out.set hlt (F i)
                rw [Nat.zero_add] at h
                refine h.congr fun j hj => ?_
                unfold upd
                by_cases e : j = i
                · subst e; simp
                · simp only [e, if_false]
                  by_cases e2 : j < i
                  · rw [if_pos e2, if_pos (by omega)]
                  · rw [if_neg e2, if_neg (by omega)]
              have hkk : Hid (Kept (In rb 0 c) w4 (wr.setCell ⟨rb, i, none⟩ (.int .i64 (F i)))) := HK.out.set _ ⟨rfl, by omega, by omega⟩
              clear HH HK
              generalize F i = fi at *
              go_wp2
              go_roundw
              case rel => exact ⟨i + 1, by omega, by go_num, hset, hkk⟩
              case measure => simp [intOf]; omega
            · obtain rfl : i = c := by omega
              go_wp2
              go_ret
              exact LPost.mk (by omega) hsz (HH.out.congr fun j hj => by rw [if_pos hj]) (hK4.out.trans' HK.out fun x o hx hh => by have := hh.1; omega)
end Go.Proofs.YtoebcbmkkhbldaaDoor
