/- impl.Again, FnAgain. -/
import Derived.Test.YtmdbdhamlcgblaaDoorQRst
set_option linter.unusedVariables false
namespace Go.Proofs.YtmdbdhamlcgblaaDoor
open Go.RowKit Go.Mem Sais Go.Lib Go.Wire
set_option maxRecDepth 100000

theorem sa_key {T : Nat → Nat} {n x a b : Nat} {sa sb : Nat → Int} (h : IsSA T n sa) (k : IsSA T n sb) (hx : x < n) (ih : ∀ y, y < x → sa y = sb y) (ea : sa x = (a : Nat)) (ha : a < n) (eb : sb x = (b : Nat)) (ne : a ≠ b) : ll (suf T n b) (suf T n a) := by
  obtain ⟨p, hp, ep⟩ := k.all a ha
  have hpx : p ≠ x := by intro e; subst e; rw [eb] at ep; exact ne (by omega)
  rcases Nat.lt_or_ge p x with h1 | h1
  · have h2 := ih p h1
    rw [ep] at h2
    exact (ll_irrefl _ (h.sorted p x a a h1 hx h2 ea)).elim
  · exact k.sorted x p b a (by omega) hp eb ep
/-- There is one suffix array. -/
theorem sa_uniq {T : Nat → Nat} {n : Nat} {sa sb : Nat → Int} (h : IsSA T n sa) (k : IsSA T n sb) : ∀ x, x < n → sa x = sb x := by
  intro x
  induction x using Nat.strongRecOn with
  | ind x ih =>
    intro hx
    obtain ⟨a, ha, ea⟩ := h.val x hx
    obtain ⟨b, hb, eb⟩ := k.val x hx
    have ih' : ∀ y, y < x → sa y = sb y := fun y hy => ih y hy (by omega)
    by_cases e : a = b
    · rw [ea, eb, e]
    · exact (ll_asymm (sa_key h k hx ih' ea ha eb e) (sa_key k h hx (fun y hy => (ih' y hy).symm) eb hb ea (Ne.symm e))).elim
theorem wireS_uniq {s : ByteArray} {sa sb : Nat → Int} (h : IsSA (chr s) s.size sa) (k : IsSA (chr s) s.size sb) : wireS s sa = wireS s sb := by
  have e : numsOf sa s.size = numsOf sb s.size := List.map_congr_left fun j hj => by rw [sa_uniq h k j (by simpa using hj)]
  unfold wireS; rw [e]
set_option maxHeartbeats 4000000 in
theorem again_any (s : ByteArray) (w : World) (hs : s.size ≤ 1073741824) (hmax : MaxIs w) :
    Calls Tryd.prog 9 #[.string s] w (WnPost s w) := by
  have HNN := Lib.hid (new_nil w hmax)
  have HM := Lib.hid hmax
  have hgm := World.block_lt_of_cell? w _ hmax
  clear hmax
  go_enter Tryd.func9, Tryd.ntmps9
  go_wp2_with fail
  refine HNN.out.mono ?_
  rintro e w1 ⟨xb, sb, rfl, hO1, hx, hsb, hk1⟩
  have HC1 := Lib.hid (written_any s w1 hs (HM.out.grew hk1))
  have HO1 := Lib.hid hO1
  have HK1 := Lib.hid hk1
  have hxl := hO1.lx
  have hsl := hO1.ls
  clear hO1 hk1 HNN
  go_wp2_with fail
  refine HC1.out.mono ?_
  rintro e w2 ⟨sa, hI, rfl, hk2⟩
  have hwl := wireS_len s sa hs hI
  have HIS := Lib.hid hI
  have hsz : (⟨(wireS s sa).toArray⟩ : ByteArray).size = (wireS s sa).length := by simp [ByteArray.size]
  have HNB := Lib.hid (newBufferString ⟨(wireS s sa).toArray⟩ w2 (by rw [hsz]; omega))
  have HSTR : Hid ((⟨(wireS s sa).toArray⟩ : ByteArray).data.toList = wireS s sa ++ []) := by show _ = _; simp
  have hs2 := hk2.size
  have HK2 := Lib.hid (HK1.out.trans hk2)
  have HO2 := Lib.hid (HO1.out.kept hk2 (fun _ h => h) (fun _ h => h) (fun _ h => h))
  clear HC1 hI hk2 HO1 hsz hwl
  generalize (⟨(wireS s sa).toArray⟩ : ByteArray) = str at *
  go_wp2_with fail
  refine HNB.out.mono ?_
  rintro e w3 ⟨b, q, rfl, hR3, hk3, hb, hq⟩
  rw [HSTR.out] at hR3
  have hk13 := HK2.out.trans hk3
  have HRB := Lib.hid (read_buffer s b q xb sb sb 0 0 none sa [] w3 (HO2.out.kept hk3 (fun _ h => h) (fun _ h => h) (fun _ h => h)) hs HIS.out hR3 (HM.out.grew hk13) (fun h => by rcases h with h | h <;> omega) (by omega) (fun h => by rcases h with h | h <;> omega) (fun h => by rcases h with h | h <;> omega) (fun h => by rcases h with h | h <;> omega))
  have HK3 := Lib.hid hk13
  have hs1 := HK1.out.size
  clear hR3 hk3 hk13 HNB HSTR HO2 HK2 HK1 HM
  go_wp2_with fail
  refine HRB.out.mono ?_
  rintro e w4 ⟨rfl, tb', sb', c', d', hO4, hI4, hR4, hK4, _⟩
  have HK4 : Hid (Grew w w4) := HK3.out.trans' hK4 fun x o hxx hh => by
    rcases hh with (hh | hh) | hh | hh | hh <;> omega
  have HO4 := Lib.hid hO4
  have HI4 := Lib.hid hI4
  clear hR4 hK4 HRB HK3 hO4 hI4
  go_wp2_with fail
  have hk5 : Grew w4 (w4.alloc (.cells #[.slice none 0 0, .int .i64 0, .int .i8 0] 45)) := (Kept.refl _ w4).alloc _
  have hx4 := HO4.out.lx
  have ht4 := HO4.out.lt
  have hs4 := HO4.out.ls
  have HW := Lib.hid (index_Write w4.heap.size xb s.size tb' 0 c' sb' 0 c' none [] (chr s) sa _ _ (WB.fresh w4) (HI4.out.grew hk5) ⟨by omega, by simp⟩ (fun _ => ⟨by omega, by simp⟩) ⟨by omega, by simp⟩ (by simp; omega))
  have HK5 := Lib.hid (HK4.out.trans hk5)
  have hsw := HK4.out.size
  clear hk5 HO4 HI4
  unfold wrV at HW
  generalize w4.alloc (.cells #[.slice none 0 0, .int .i64 0, .int .i8 0] 45) = w5 at *
  refine HW.out.mono ?_
  rintro e w6 ⟨rfl, g', hW6, hK6, _⟩
  rw [List.nil_append] at hW6
  obtain ⟨q6, _, hR6⟩ := hW6.rb (wireS_ne s sa hs)
  have HS := Lib.hid (buffer_String hR6)
  have HG : Hid (Grew w w6) := HK5.out.trans' hK6 fun x o hx hh => by
    rcases hh with hh | hh
    · omega
    · cases hh
  clear hW6 hR6 hK6 HW HK5 HK4
  go_wp2_with fail
  refine HS.out.mono ?_
  rintro e w7 ⟨rfl, n4, rfl⟩
  have HE : Hid (WnPost s w (.returned (.string ⟨(wireS s sa).toArray⟩)) (w6.drewN n4)) := ⟨sa, HIS.out, rfl, HG.out.drewN n4⟩
  unfold wireS at HE
  clear HS HG HIS
  go_wp2
  go_ret
  exact HE.out
/-- FnAgain -/
theorem fnAgain_any (s : ByteArray) (w : World) (hs : s.size ≤ 1073741824) (hmax : MaxIs w) :
    Calls Tryd.prog 5 #[.string s] w (GB true w) := by
  have HC1 := Lib.hid (written_any s w hs hmax)
  have HM := Lib.hid hmax
  clear hmax
  go_enter Tryd.func5, Tryd.ntmps5
  go_wp2_with fail
  refine HC1.out.mono ?_
  rintro e w1 ⟨sa, hI, rfl, hk1⟩
  have hwl := wireS_len s sa hs hI
  have hsz : (⟨(wireS s sa).toArray⟩ : ByteArray).size = (wireS s sa).length := by simp [ByteArray.size]
  have HC2 := Lib.hid (again_any s w1 hs (HM.out.grew hk1))
  have HK1 := Lib.hid hk1
  have HI := Lib.hid hI
  have hn1 : ¬ (⟨(wireS s sa).toArray⟩ : ByteArray).toList = [] := fun h => by have := str_nil.1 h; rw [hsz] at this; omega
  have hn2 : (⟨(wireS s sa).toArray⟩ : ByteArray).toList.isEmpty = false := by simpa using hn1
  have HEQ : Hid (∀ sb, IsSA (chr s) s.size sb → (⟨(wireS s sb).toArray⟩ : ByteArray) = ⟨(wireS s sa).toArray⟩) := fun sb hb => by rw [wireS_uniq hb HI.out]
  clear HC1 hI hk1 hwl hsz
  generalize (⟨(wireS s sa).toArray⟩ : ByteArray) = str at *
  go_wp2_with fail
  refine HC2.out.mono ?_
  rintro e w2 ⟨sb, hI2, he, hk⟩
  rw [HEQ.out sb hI2] at he
  subst he
  have HK := Lib.hid (HK1.out.trans hk)
  clear hk HC2 hI2 HEQ
  go_wp2
  go_ret
  exact ⟨rfl, HK.out⟩
end Go.Proofs.YtmdbdhamlcgblaaDoor
