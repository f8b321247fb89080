/- FnInside. -/
import Derived.Test.YtgmmenfnhppofaaDoorA7
set_option linter.unusedVariables false
namespace Go.Proofs.YtgmmenfnhppofaaDoor
open Go.RowKit Go.Mem Sais
set_option maxRecDepth 100000

theorem toList_inj {a b : ByteArray} : a.toList = b.toList ↔ a = b := by
  constructor
  · intro e
    rw [ByteArray.toList_eq, ByteArray.toList_eq] at e
    exact ByteArray.ext (Array.ext' e)
  · rintro rfl; rfl
theorem toList_nil {a : ByteArray} : a.toList = [] ↔ a.size = 0 := by
  rw [ByteArray.toList_eq]
  constructor
  · intro e
    have := congrArg List.length e
    simpa using this
  · intro e
    refine List.length_eq_zero_iff.1 ?_
    rw [Array.length_toList]; exact e
theorem places_nil (s : ByteArray) {t : ByteArray} (h : t.size = 0) : places s t = [] := by unfold places; rw [if_pos h]
set_option maxHeartbeats 4000000 in
theorem fnInside_any (a b : ByteArray) (w : World) (ha : a.size ≤ 1073741824) (hb : b.size ≤ 1073741824) (hmax : MaxIs w) :
    Calls Tryd.prog 5 #[.string a, .string b] w (GB true w) := by
  have HC1 := Lib.hid (lookup_any a b w ha hb hmax)
  have HC2 := Lib.hid (fun u (hu : Grew w u) => lookup_any b a u hb ha (hmax.grew hu))
  have HC3 := Lib.hid (fun u (hu : Grew w u) => awake_any u (hmax.grew hu))
  have hlaw := inside_law a b
  clear hmax
  by_cases hab : a = b
  · subst hab
    by_cases h0 : a.size = 0
    · have hn : a.toList = [] := toList_nil.2 h0
      have HZ := Lib.hid (places_nil a h0)
      clear hlaw h0
      go_enter Tryd.func5, Tryd.ntmps5
      go_wp2_with fail
      refine HC1.out.mono ?_
      rintro e w1 ⟨l1, v1, rfl, h1, hp1, k1⟩
      obtain ⟨a1, c1, rfl⟩ := h1.shape
      have hl : l1.length = 0 := by rw [lookup_len hp1, HZ.out]; rfl
      rw [hl]
      have HA := Lib.hid (HC3.out w1 k1)
      have HK := Lib.hid k1
      clear HC1 HC2 HC3 h1 hp1 k1 hl
      go_wp2_with fail
      refine HA.out.mono ?_
      rintro e w2 ⟨rfl, k2⟩
      go_wp2
      go_ret
      exact ⟨rfl, HK.out.trans k2⟩
    · have hn : ¬ a.toList = [] := fun h => h0 (toList_nil.1 h)
      have hn2 : a.toList.isEmpty = false := by simpa using hn
      have HZ := Lib.hid (hlaw.2 ⟨rfl, h0⟩).1
      clear hlaw h0
      go_enter Tryd.func5, Tryd.ntmps5
      go_wp2_with fail
      refine HC1.out.mono ?_
      rintro e w1 ⟨l1, v1, rfl, h1, hp1, k1⟩
      obtain ⟨a1, c1, rfl⟩ := h1.shape
      have hl : 0 < l1.length := by have := lookup_len hp1; have := HZ.out; omega
      have HB := Lib.hid (HC2.out w1 k1)
      have HK := Lib.hid k1
      clear HC1 HC2 h1 hp1 k1
      generalize l1.length = n1 at *
      go_wp2_with fail
      refine HB.out.mono ?_
      rintro e w2 ⟨l2, v2, rfl, h2, hp2, k2⟩
      obtain ⟨a2, c2, rfl⟩ := h2.shape
      have hl2 : 0 < l2.length := by have := lookup_len hp2; have := HZ.out; omega
      have HA := Lib.hid (HC3.out w2 (HK.out.trans k2))
      have HK2 := Lib.hid (HK.out.trans k2)
      clear HB HC3 h2 hp2 k2 HK
      generalize l2.length = n2 at *
      go_wp2_with fail
      refine HA.out.mono ?_
      rintro e w3 ⟨rfl, k3⟩
      go_wp2
      go_ret
      exact ⟨rfl, HK2.out.trans k3⟩
  · have hn : ¬ a.toList = b.toList := fun h => hab (toList_inj.1 h)
    have HZ := Lib.hid (fun h => hab (hlaw.1 h).1)
    clear hlaw hab
    go_enter Tryd.func5, Tryd.ntmps5
    go_wp2_with fail
    refine HC1.out.mono ?_
    rintro e w1 ⟨l1, v1, rfl, h1, hp1, k1⟩
    obtain ⟨a1, c1, rfl⟩ := h1.shape
    by_cases hl : 0 < l1.length
    · have HB := Lib.hid (HC2.out w1 k1)
      have HK := Lib.hid k1
      have HZ2 := Lib.hid (fun h => HZ.out ⟨by rw [← lookup_len hp1]; exact hl, h⟩)
      have hl1 : 0 < l1.length := by omega
      clear HC1 HC2 h1 hp1 k1 HZ hl
      generalize l1.length = n1 at *
      go_wp2_with fail
      refine HB.out.mono ?_
      rintro e w2 ⟨l2, v2, rfl, h2, hp2, k2⟩
      obtain ⟨a2, c2, rfl⟩ := h2.shape
      have hl2 : l2.length = 0 := Nat.eq_zero_of_not_pos fun h => HZ2.out (by rw [← lookup_len hp2]; exact h)
      rw [hl2]
      have HA := Lib.hid (HC3.out w2 (HK.out.trans k2))
      have HK2 := Lib.hid (HK.out.trans k2)
      clear HB HC3 h2 hp2 k2 HK hl2 HZ2
      go_wp2_with fail
      refine HA.out.mono ?_
      rintro e w3 ⟨rfl, k3⟩
      go_wp2
      go_ret
      exact ⟨rfl, HK2.out.trans k3⟩
    · have hl1 : l1.length = 0 := by omega
      rw [hl1]
      have HA := Lib.hid (HC3.out w1 k1)
      have HK := Lib.hid k1
      clear HC1 HC2 HC3 h1 hp1 k1 hl hl1 HZ
      go_wp2_with fail
      refine HA.out.mono ?_
      rintro e w2 ⟨rfl, k2⟩
      go_wp2
      go_ret
      exact ⟨rfl, HK.out.trans k2⟩
end Go.Proofs.YtgmmenfnhppofaaDoor
