/- FnStreamLess. -/
import Derived.Test.YtoebcbmkkhbldaaDoorQStr
import Derived.Test.YtoebcbmkkhbldaaDoorQLst
import Derived.Test.YtoebcbmkkhbldaaDoorQSta
set_option linter.unusedVariables false
namespace Go.Proofs.YtoebcbmkkhbldaaDoor
open Go.RowKit Go.Mem Sais Go.Lib Go.Wire
set_option maxRecDepth 100000

theorem places_empty (s : ByteArray) : places ⟨#[]⟩ s = [] := List.length_eq_zero_iff.1 (Nat.le_zero.1 (places_len ⟨#[]⟩ s))
theorem perm_empty {s : ByteArray} {l : List Int} (h : l.Perm (ints (places ⟨#[]⟩ s))) : l.length = 0 := by
  rw [lookup_len h, places_empty]; rfl
set_option maxHeartbeats 8000000 in
theorem fnStreamLess_any (ts : List ByteArray) (s : ByteArray) (tv : Value) (w : World) (ht : ∀ t ∈ ts, t.size ≤ 1048576) (hl : ts.length ≤ 1048576) (hs : s.size ≤ 1048576) (hT : TS ts w tv) (hmax : MaxIs w) :
    Calls Tryd.prog 3 #[tv, .string s] w (GB true w) := by
  have hmk := Tryd.makeI64 w ts.length (by omega)
  have hk1 : Grew w (w.alloc (.cells (madeCells #[.int .i64 0] ts.length) 3)) := (Kept.refl _ w).alloc _
  have HC := stream_any ts (List.replicate ts.length 0) 3 s tv _ _ ht hl (by omega) (hT.grew hk1) (zeros_il w ts.length) (by simp) (fun j hj => by rw [(List.mem_replicate.1 hj).2]; omega) (by omega) (hmax.grew hk1)
  rw [show ((3 : Nat) : Int) = 3 from rfl] at HC
  replace HC := Lib.hid HC
  have HK1 := Lib.hid hk1
  obtain ⟨ta, tc, rfl⟩ := hT.shape
  clear hT hmax ht hk1
  go_enter Tryd.func3, Tryd.ntmps3
  go_wp2_with fail
  refine HC.out.mono ?_
  rintro e w2 ⟨vs, v1, v2, rfl, i1, hvl, hL, i2, k2⟩
  obtain ⟨b1, o1, c1, rfl, _, hcell1⟩ := i1.cells (by omega)
  obtain ⟨b2, o2, c2, rfl, _, hcell2⟩ := i2.cells (by simp)
  rw [List.length_map, List.length_range, hvl]
  obtain ⟨l1, t1, p1⟩ := hL 1 (by omega)
  obtain ⟨l2, t2, p2⟩ := hL 2 (by omega)
  rw [lastT_none ts _ 1 (by omega)] at p1
  rw [lastT_none ts _ 2 (by omega)] at p2
  obtain ⟨a3, c3, e3⟩ := t1.1.shape
  obtain ⟨a4, c4, e4⟩ := t2.1.shape
  rw [perm_empty p1] at e3
  rw [perm_empty p2] at e4
  have d1 := hcell1 1 (by omega)
  have d2 := hcell1 2 (by omega)
  rw [e3] at d1
  rw [e4] at d2
  have f1 := hcell2 1 (by simp)
  have f2 := hcell2 2 (by simp)
  rw [map_get, lastT_none ts _ 1 (by omega)] at f1
  rw [map_get, lastT_none ts _ 2 (by omega)] at f2
  have HK2 := Lib.hid (HK1.out.trans k2)
  clear hcell1 hcell2 i1 i2 hL hvl k2 t1 t2 p1 p2 e3 e4 HC HK1
  go_wp2
  go_ret
  exact ⟨rfl, HK2.out⟩
end Go.Proofs.YtoebcbmkkhbldaaDoor
