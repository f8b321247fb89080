/- FnStreamOrder. -/
import Derived.Test.YtoebcbmkkhbldaaGreatDoorQStr
import Derived.Test.YtoebcbmkkhbldaaGreatDoorQLst
import Derived.Test.YtoebcbmkkhbldaaGreatDoorQSta
set_option linter.unusedVariables false
namespace Go.Proofs.YtoebcbmkkhbldaaGreatDoor
open Go.RowKit Go.Mem Sais Go.Lib Go.Wire
set_option maxRecDepth 100000

theorem last_01 (a b : ByteArray) : lastT [a, b] [0, 1] 2 0 = a ∧ lastT [a, b] [0, 1] 2 1 = b := by simp [lastT, fset]
theorem last_10 (a b : ByteArray) : lastT [b, a] [1, 0] 2 0 = a ∧ lastT [b, a] [1, 0] 2 1 = b := by simp [lastT, fset]
/-- Two texts in one stream, in this order or in the other one. -/
def TwPost (a b s : ByteArray) (w : World) (e : Ending) (w' : World) : Prop := ∃ b1 o1 c1 b2 o2 c2 l0 l1 x0 x1, e = .returned (.tuple #[.slice (some ⟨b1, o1, none⟩) 2 c1, .slice (some ⟨b2, o2, none⟩) 2 c2, .bool true]) ∧
  w'.cell? ⟨b1, o1, none⟩ = some x0 ∧ w'.cell? ⟨b1, o1 + 1, none⟩ = some x1 ∧ IL l0 w' x0 ∧ IL l1 w' x1 ∧ l0.Perm (ints (places a s)) ∧ l1.Perm (ints (places b s)) ∧ TS [a, b] w' (.slice (some ⟨b2, o2, none⟩) 2 c2) ∧ Grew w w'
theorem two_post {ts : List ByteArray} {js : List Nat} {a b s : ByteArray} {w w' : World} {e : Ending} (h0 : lastT ts js ts.length 0 = a) (h1 : lastT ts js ts.length 1 = b) (h : StPost ts js 2 s w e w') : TwPost a b s w e w' := by
  obtain ⟨vs, v1, v2, rfl, i1, hvl, hL, i2, k2⟩ := h
  have hm : (List.range 2).map (lastT ts js ts.length) = [a, b] := by
    show [lastT ts js ts.length 0, lastT ts js ts.length 1] = [a, b]
    rw [h0, h1]
  rw [hm] at i2
  obtain ⟨b1, o1, c1, rfl, _, hcell1⟩ := i1.cells (by omega)
  obtain ⟨b2, o2, c2, rfl, _, hcell2⟩ := i2.cells (by simp)
  obtain ⟨l0, t0, p0⟩ := hL 0 (by omega)
  obtain ⟨l1, t1, p1⟩ := hL 1 (by omega)
  rw [h0] at p0
  rw [h1] at p1
  rw [hvl]
  have hc0 := hcell1 0 (by omega)
  rw [Nat.add_zero] at hc0
  exact ⟨b1, o1, c1, b2, o2, c2, l0, l1, _, _, rfl, hc0, hcell1 1 (by omega), t0.1, t1.1, p0, p1, i2, k2⟩
theorem ints_two (x y : Nat) : ints [x, y] = [(x : Int), (y : Int)] := rfl
set_option maxHeartbeats 8000000 in
theorem fnStreamOrder_any (a b s : ByteArray) (w : World) (ha : a.size ≤ 1048576) (hb : b.size ≤ 1048576) (hs : s.size ≤ 1048576) (hmax : MaxIs w) :
    Calls Tryz.prog 6 #[.string a, .string b, .string s] w (GB true w) := by
  have HS : Hid (∀ (x y : ByteArray) (p q : Nat) (u : World) (t1 t2 : TypeId), x.size ≤ 1048576 → y.size ≤ 1048576 → p < 2 → q < 2 → Grew w u → Calls Tryz.prog 12 #[.slice (some ⟨u.heap.size, 0, none⟩) 2 2, .slice (some ⟨u.heap.size + 1, 0, none⟩) 2 2, .int .i64 2, .string s] ((u.alloc (.cells #[.string x, .string y] t1)).alloc (.cells #[.int .i64 (p : Nat), .int .i64 (q : Nat)] t2)) (StPost [x, y] [p, q] 2 s ((u.alloc (.cells #[.string x, .string y] t1)).alloc (.cells #[.int .i64 (p : Nat), .int .i64 (q : Nat)] t2)))) := fun x y p q u t1 t2 hx hy hp hq hu => by
    have k1 : Grew u (u.alloc (.cells #[.string x, .string y] t1)) := (Kept.refl _ u).alloc _
    have k2 : Grew (u.alloc (.cells #[.string x, .string y] t1)) ((u.alloc (.cells #[.string x, .string y] t1)).alloc (.cells #[.int .i64 (p : Nat), .int .i64 (q : Nat)] t2)) := (Kept.refl _ _).alloc _
    have h1 : TS [x, y] (u.alloc (.cells #[.string x, .string y] t1)) (.slice (some ⟨u.heap.size, 0, none⟩) 2 2) := VL.lit u [.string x, .string y] t1
    have h2 : IL (ints [p, q]) ((u.alloc (.cells #[.string x, .string y] t1)).alloc (.cells #[.int .i64 (p : Nat), .int .i64 (q : Nat)] t2)) (.slice (some ⟨(u.alloc (.cells #[.string x, .string y] t1)).heap.size, 0, none⟩) 2 2) := VL.lit _ [.int .i64 (p : Nat), .int .i64 (q : Nat)] t2
    rw [World.size_alloc] at h2
    exact stream_any [x, y] [p, q] 2 s _ _ _ (by simp; omega) (by simp) (by omega) (h1.grew k2) h2 rfl (by simp; omega) (by omega) (((hmax.grew hu).grew k1).grew k2)
  have HC1 := HS.out a b 0 1 w 9 3 ha hb (by omega) (by omega) (Kept.refl _ w)
  rw [show ((0 : Nat) : Int) = 0 from rfl, show ((1 : Nat) : Int) = 1 from rfl] at HC1
  replace HC1 := Lib.hid (HC1.mono fun e w' h => two_post (last_01 a b).1 (last_01 a b).2 h)
  have HC2 := fun u (hu : Grew w u) => HS.out b a 1 0 u 9 3 hb ha (by omega) (by omega) hu
  rw [show ((0 : Nat) : Int) = 0 from rfl, show ((1 : Nat) : Int) = 1 from rfl] at HC2
  replace HC2 := Lib.hid (fun u hu => (HC2 u hu).mono fun e w' h => two_post (last_10 a b).1 (last_10 a b).2 h)
  have HK0 : Hid (Grew w ((w.alloc (.cells #[.string a, .string b] 9)).alloc (.cells #[.int .i64 0, .int .i64 1] 3))) := ((Kept.refl _ w).alloc _).alloc _
  have HRI := Lib.hid (fun (t : ByteArray) u l1 v1 (h : t.size ≤ 1048576) (i1 : IL l1 u v1) (hp : l1.Perm (ints (places t s))) => rising_il (by rw [lookup_len hp]; exact places_big (by omega)) i1)
  clear hmax HS
  go_enter Tryz.func6, Tryz.ntmps6
  go_wp2_with fail
  refine HC1.out.mono ?_
  rintro e w1 ⟨b1, o1, c1, b2, o2, c2, l0, l1, x0, x1, rfl, d0, d1, i0, i1, p0, p1, its, k1⟩
  have HK1 := Lib.hid (HK0.out.trans k1)
  have HC3 := Lib.hid (HC2.out w1 HK1.out)
  have HD := Lib.hid (fun u (hu : Grew w1 u) => (⟨(hu.cell _ _ (World.block_lt_of_cell? w1 _ d0) fun h => h).trans d0, (hu.cell _ _ (World.block_lt_of_cell? w1 _ d1) fun h => h).trans d1⟩ : u.cell? ⟨b1, o1, none⟩ = some x0 ∧ u.cell? ⟨b1, o1 + 1, none⟩ = some x1))
  have HI0 := Lib.hid i0; have HI1 := Lib.hid i1; have HP0 := Lib.hid p0; have HP1 := Lib.hid p1; have HTS := Lib.hid its
  clear d0 d1 i0 i1 p0 p1 its k1 HC1 HC2 HK0
  go_wp2_with fail
  refine HC3.out.mono ?_
  rintro e w2 ⟨b3, o3, c3, b4, o4, c4, m0, m1, y0, y1, rfl, d0, d1, i0, i1, p0, p1, its, k2⟩
  have hk12 : Grew w1 w2 := (((Kept.refl _ w1 : Grew w1 w1).alloc _).alloc _).trans k2
  have HK2 := Lib.hid (HK1.out.trans hk12)
  have HE1 := Lib.hid (equal_str [a, b] [a, b] _ _ w2 (HTS.out.grew hk12) its (by simp) rfl)
  have HE2 := Lib.hid (fun u (hu : Grew w2 u) => equal_str [a, b] [a, b] _ _ (u.alloc (.cells #[.string a, .string b] 9)) ((HTS.out.grew (hk12.trans hu)).grew ((Kept.refl _ u : Grew u u).alloc _)) (VL.lit u [.string a, .string b] 9) (by simp) rfl)
  have HDD := Lib.hid (fun u (hu : Grew w2 u) => (⟨(HD.out u (hk12.trans hu)).1, (HD.out u (hk12.trans hu)).2, (hu.cell _ _ (World.block_lt_of_cell? w2 _ d0) fun h => h).trans d0, (hu.cell _ _ (World.block_lt_of_cell? w2 _ d1) fun h => h).trans d1⟩ : u.cell? ⟨b1, o1, none⟩ = some x0 ∧ u.cell? ⟨b1, o1 + 1, none⟩ = some x1 ∧ u.cell? ⟨b3, o3, none⟩ = some y0 ∧ u.cell? ⟨b3, o3 + 1, none⟩ = some y1))
  have HR0 := Lib.hid (fun u (hu : Grew w2 u) => HRI.out a u m0 y0 ha (i0.grew hu) p0)
  have HR1 := Lib.hid (fun u (hu : Grew w2 u) => HRI.out b u m1 y1 hb (i1.grew hu) p1)
  have HS0 := Lib.hid (fun u v (hu : Grew w2 u) (i : IL (srt m0) u v) => by
    have h1 := same_il (HI0.out.grew (hk12.trans hu)) i (by rw [lookup_len HP0.out]; exact places_big (by omega)) (by rw [srt_len, lookup_len p0]; exact places_big (by omega))
    rw [decide_eq_true (srt_of_perm (HP0.out.trans p0.symm))] at h1
    exact h1)
  have HS1 := Lib.hid (fun u v (hu : Grew w2 u) (i : IL (srt m1) u v) => by
    have h1 := same_il (HI1.out.grew (hk12.trans hu)) i (by rw [lookup_len HP1.out]; exact places_big (by omega)) (by rw [srt_len, lookup_len p1]; exact places_big (by omega))
    rw [decide_eq_true (srt_of_perm (HP1.out.trans p1.symm))] at h1
    exact h1)
  clear d0 d1 i0 i1 p0 p1 its k2 hk12 HC3 HK1 HD HI0 HI1 HP0 HP1 HTS HRI
  go_wp2_with fail
  refine HE1.out.mono ?_
  rintro e w3 ⟨rfl, q3, rfl⟩
  have HK3 : Hid (Grew w2 (w2.drewN q3)) := (Kept.refl _ w2).drewN q3
  generalize w2.drewN q3 = w3 at *
  have HE3 := Lib.hid (HE2.out w3 HK3.out)
  clear HE1 HE2
  go_wp2_with fail
  refine HE3.out.mono ?_
  rintro e w4 ⟨rfl, q4, rfl⟩
  have HK4 : Hid (Grew w2 ((w3.alloc (.cells #[.string a, .string b] 9)).drewN q4)) := (HK3.out.alloc _).drewN q4
  generalize (w3.alloc (.cells #[.string a, .string b] 9)).drewN q4 = w4 at *
  clear HE3 HK3
  have hd := HDD.out w4 HK4.out
  have g0 := hd.1
  have g1 := hd.2.1
  have g2 := hd.2.2.1
  have g3 := hd.2.2.2
  clear hd
  go_wp2_with fail
  go_region_held3 (fun w' => w'.cell? ⟨b1, o1, none⟩ = some x0 ∧ w'.cell? ⟨b1, o1 + 1, none⟩ = some x1 ∧ w'.cell? ⟨b3, o3, none⟩ = some y0 ∧ w'.cell? ⟨b3, o3 + 1, none⟩ = some y1)
    (first | (exact HDD.out _ HG5.out) | (exact HDD.out _ HG6.out) | (exact HDD.out _ HG7.out) | (exact HDD.out _ HG8.out) | go_keep)
    (first
      | (go_at_call 18; (with_reducible refine (HR0.out _ HK4.out.drew).mono ?_); rintro e w5 ⟨v5, rfl, i5, k5⟩; have HG5 := Lib.hid (HK4.out.drew.trans k5); have HI5 := Lib.hid i5; clear i5 k5)
      | (go_at_call 14; (with_reducible refine (HS0.out _ _ HG5.out HI5.out).mono ?_); rintro e w6 ⟨rfl, k6⟩; have HG6 := Lib.hid (HG5.out.trans k6); clear k6)
      | (go_at_call 18; (with_reducible refine (HR1.out _ HG6.out).mono ?_); rintro e w7 ⟨v7, rfl, i7, k7⟩; have HG7 := Lib.hid (HG6.out.trans k7); have HI7 := Lib.hid i7; clear i7 k7)
      | (go_at_call 14; (with_reducible refine (HS1.out _ _ HG7.out HI7.out).mono ?_); rintro e w8 ⟨rfl, k8⟩; have HG8 := Lib.hid (HG7.out.trans k8); clear k8))
  go_wp2
  go_ret
  exact ⟨rfl, HK2.out.trans HG8.out⟩
end Go.Proofs.YtoebcbmkkhbldaaGreatDoor
