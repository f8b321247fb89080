/- FnMost. -/
import Derived.Test.YtgmmenfnhppofaaDoorQLwTh
import Derived.Test.YtgmmenfnhppofaaDoorQLks
set_option linter.unusedVariables false
namespace Go.Proofs.YtgmmenfnhppofaaDoor
open Go.RowKit Go.Mem Sais
set_option maxRecDepth 100000

set_option maxHeartbeats 4000000 in
theorem fnMost_any (d s : ByteArray) (fr to' : Int) (w : World) (hd : d.size ≤ 1073741824) (hs : s.size ≤ 1073741824) (lo1 : -9223372036854775808 ≤ fr) (hi1 : fr < 9223372036854775808) (lo2 : -9223372036854775808 ≤ to') (hi2 : to' < 9223372036854775808) (hmax : MaxIs w) :
    Calls Tryd.prog 17 #[.string d, .string s, .int .i64 fr, .int .i64 to'] w (GB true w) := by
  have HC3 := Lib.hid (fun u (hu : Grew w u) => awake_any u (hmax.grew hu))
  have HM := Lib.hid hmax
  clear hmax
  by_cases h1 : fr < 0
  · go_enter Tryd.func17, Tryd.ntmps17
    go_wp2_with fail
    refine (HC3.out w (Kept.refl _ w)).mono ?_
    rintro e w2 ⟨rfl, k2⟩
    go_wp2
    go_ret
    exact ⟨rfl, k2⟩
  · by_cases h2 : (s.size : Int) < to'
    · go_enter Tryd.func17, Tryd.ntmps17
      go_wp2_with fail
      refine (HC3.out w (Kept.refl _ w)).mono ?_
      rintro e w2 ⟨rfl, k2⟩
      go_wp2
      go_ret
      exact ⟨rfl, k2⟩
    · by_cases h3 : to' ≤ fr
      · go_enter Tryd.func17, Tryd.ntmps17
        go_wp2_with fail
        refine (HC3.out w (Kept.refl _ w)).mono ?_
        rintro e w2 ⟨rfl, k2⟩
        go_wp2
        go_ret
        exact ⟨rfl, k2⟩
      · obtain ⟨a, rfl⟩ : ∃ n : Nat, fr = (n : Int) := ⟨fr.toNat, by omega⟩
        obtain ⟨b, rfl⟩ : ∃ n : Nat, to' = (n : Int) := ⟨to'.toNat, by omega⟩
        have hz : (s.extract a b).size ≤ 1073741824 := by rw [size_extract' (by omega)]; omega
        have HLAW := Lib.hid (most_law d s a b (by omega) (by omega))
        have hgA : Grew w (w.alloc (.cells #[.string s, .string (s.extract a b)] 9)) := (Kept.refl _ w : Grew w w).alloc _
        have HC1 := Lib.hid (lookups_any d [s, s.extract a b] (.slice (some ⟨w.heap.size, 0, none⟩) 2 2) (w.alloc (.cells #[.string s, .string (s.extract a b)] 9)) hd (fun t ht => by rcases List.mem_cons.1 ht with rfl | ht; exact hs; rw [List.mem_singleton.1 ht]; exact hz) (by simp) (VL.lit w [.string s, .string (s.extract a b)] 9) (HM.out.grew hgA))
        have HGA := Lib.hid hgA
        have y1 : (a : Int) ≤ (b : Int) := by omega
        have y2 : (b : Int) ≤ (s.size : Int) := by omega
        have y3 : ¬ (b : Int) ≤ (a : Int) := by omega
        have y4 : ¬ (s.size : Int) < (b : Int) := by omega
        clear hgA hz
        go_enter Tryd.func17, Tryd.ntmps17
        go_wp2_with fail
        refine HC1.out.mono ?_
        rintro e w1 ⟨vs, v, rfl, hv, hvl, hll, k1⟩
        obtain ⟨b0, o0, c0, rfl, hc0, hcell⟩ := hv.cells (by rw [hvl]; simp)
        have hvl2 : vs.length = 2 := by rw [hvl]; rfl
        obtain ⟨l0, t0, p0⟩ := hll 0 (by omega) (by simp)
        obtain ⟨l1, t1, p1⟩ := hll 1 (by omega) (by simp)
        obtain ⟨a1, c1, e1⟩ := t0.1.shape
        obtain ⟨a2, c2, e2⟩ := t1.1.shape
        have d0 := hcell 0 (by omega)
        have d1 := hcell 1 (by omega)
        rw [e1] at d0
        rw [e2] at d1
        have hle : l0.length ≤ l1.length := by
          have q0 := p0.length_eq; have q1 := p1.length_eq
          rw [ints_length] at q0 q1
          have := HLAW.out
          simp at q0 q1
          omega
        rw [hvl2]
        rw [Nat.add_zero] at d0
        have hle' : (l0.length : Int) ≤ (l1.length : Int) := by omega
        have HK := Lib.hid (HGA.out.trans k1)
        have x1 : w1.cell? ⟨b0, o0, none⟩ = some (.slice a1 l0.length c1) := d0
        have x2 : w1.cell? ⟨b0, o0 + 1, none⟩ = some (.slice a2 l1.length c2) := d1
        have HD := Lib.hid (fun u (hu : Grew w1 u) => (⟨(hu.cell _ _ (World.block_lt_of_cell? w1 _ d0) fun h => h).trans d0, (hu.cell _ _ (World.block_lt_of_cell? w1 _ d1) fun h => h).trans d1⟩ : u.cell? ⟨b0, o0, none⟩ = some (.slice a1 l0.length c1) ∧ u.cell? ⟨b0, o0 + 1, none⟩ = some (.slice a2 l1.length c2)))
        clear HC1 hv hvl hll k1 hcell t0 p0 t1 p1 e1 e2 d0 d1 hvl2 HLAW HGA
        generalize l0.length = n0 at *
        generalize l1.length = n1 at *
        have HCA := Lib.hid (HC3.out w1.drew HK.out.drew)
        go_wp2_with fail
        go_region_held3 (fun w' => w'.cell? ⟨b0, o0, none⟩ = some (.slice a1 n0 c1) ∧ w'.cell? ⟨b0, o0 + 1, none⟩ = some (.slice a2 n1 c2))
          (first | (exact HD.out _ ((Kept.refl _ w1 : Grew w1 w1).drew.trans HK8.out)) | go_keep)
          (first
            | (go_at_call 29; (with_reducible refine HCA.out.mono ?_); rintro e w8 ⟨rfl, hk8⟩; have HK8 := Lib.hid hk8; clear hk8))
        go_wp2
        go_ret
        exact ⟨rfl, HK.out.drew.trans HK8.out⟩
end Go.Proofs.YtgmmenfnhppofaaDoor
