/- impl.Written. -/
import Derived.Test.YtoebcbmkkhbldaaGreatDoorQRdr
set_option linter.unusedVariables false
namespace Go.Proofs.YtoebcbmkkhbldaaGreatDoor
open Go.RowKit Go.Mem Sais Go.Lib Go.Wire
set_option maxRecDepth 100000

theorem bts_chr (s : ByteArray) : bts (chr s) s.size = s.data.toList := by
  apply List.ext_getElem
  · simp [bts]
  · intro j h1 h2
    have h3 : j < s.data.size := by simpa using h2
    simp only [bts, chr, List.getElem_map, List.getElem_range, Array.getElem?_eq_getElem h3, Option.getD_some]
    simp
/-- What is written for s. -/
def wireS (s : ByteArray) (sa : Nat → Int) : List UInt8 := wire (bts (chr s) s.size) (numsOf sa s.size)
theorem wireS_ne (s : ByteArray) (sa : Nat → Int) (hs : s.size ≤ 1073741824) : wireS s sa ≠ [] := by
  intro h
  have h1 := congrArg List.length h
  unfold wireS wire at h1
  rw [List.length_append, List.length_append, bts_len, first_len hs] at h1
  simp at h1
theorem wireS_len (s : ByteArray) (sa : Nat → Int) (hs : s.size ≤ 1073741824) (hI : IsSA (chr s) s.size sa) : (wireS s sa).length ≤ 10 + 16 * s.size ∧ 10 ≤ (wireS s sa).length := by
  have := wire_len (bts (chr s) s.size) (numsOf sa s.size) (by rw [bts_len]; exact hs) (numsOf_lt fun j hj => by have := hI.lt hj; omega)
  rw [bts_len, numsOf_len] at this
  unfold wireS
  omega
def WnPost (s : ByteArray) (w : World) (e : Ending) (w' : World) : Prop := ∃ sa, IsSA (chr s) s.size sa ∧ e = .returned (.string ⟨(wireS s sa).toArray⟩) ∧ Grew w w'
set_option maxHeartbeats 4000000 in
theorem written_any (s : ByteArray) (w : World) (hs : s.size ≤ 1073741824) (hmax : MaxIs w) :
    Calls Tryz.prog 22 #[.string s] w (WnPost s w) := by
  have hk1 : Grew w (w.alloc (.cells #[.slice none 0 0, .int .i64 0, .int .i8 0] 50)) := (Kept.refl _ w).alloc _
  have hW1 := WB.fresh w
  have hM1 := hmax.grew hk1
  have hc1 := run_str
  have HSZ : Hid (w.heap.size < (w.alloc (.cells #[.slice none 0 0, .int .i64 0, .int .i8 0] 50)).heap.size) := by show _ < _; rw [World.size_alloc]; omega
  have HK1 := Lib.hid hk1
  have HW1 := Lib.hid hW1
  have HM1 := Lib.hid hM1
  clear hk1 hW1 hM1 hmax
  go_enter Tryz.func22, Tryz.ntmps22
  go_wp2_with fail
  generalize w.alloc (.cells #[.slice none 0 0, .int .i64 0, .int .i8 0] 50) = w1 at *
  have HN := Lib.hid (new_ix (chr s) s.size w1.heap.size 0 (grownCap w1 s.size 0 5) (strV w1 s) (some ⟨w1.heap.size, 0, none⟩) (strW w1 s) hs (fun i _ => chr_lt s i) rfl (strV_text w1 s) (HM1.out.grew (strW_grew w1 s)))
  refine HN.out.mono ?_
  rintro e w2 ⟨xb, sb, sa, rfl, hI, hx, hsb, _, hk2, _, _⟩
  have hk12 := (strW_grew w1 s).trans hk2
  have hb2 := hk12.size
  have hsz := HSZ.out
  have hst : w1.heap.size ≤ (strW w1 s).heap.size := (strW_grew w1 s).size
  have HW := Lib.hid (index_Write w.heap.size xb s.size _ _ _ sb 0 _ none [] (chr s) sa _ w2 (HW1.out.kept hk12 (fun _ h => h) (fun _ _ _ h => h)) hI ⟨by omega, by simp⟩ (fun _ => ⟨by omega, by simp⟩) ⟨by omega, by simp⟩ (by simp; omega))
  have HIS := Lib.hid hI.isa
  have HK2 := Lib.hid (HK1.out.trans hk12)
  clear hI hx hsb hk2 hk12 HN HW1 HM1 hb2 hsz hst HK1 HSZ
  unfold wrV at HW
  go_wp2_with fail
  refine HW.out.mono ?_
  rintro e w3 ⟨rfl, g', hW3, hK3, _⟩
  rw [List.nil_append] at hW3
  obtain ⟨q, _, hR⟩ := hW3.rb (wireS_ne s sa hs)
  have HS := Lib.hid (buffer_String hR)
  have HG : Hid (Grew w w3) := HK2.out.trans' hK3 fun x o hx hh => by
    rcases hh with hh | hh
    · omega
    · cases hh
  clear hW3 hR hK3 HW HK2
  go_wp2_with fail
  refine HS.out.mono ?_
  rintro e w4 ⟨rfl, n4, rfl⟩
  have HE : Hid (WnPost s w (.returned (.string ⟨(wireS s sa).toArray⟩)) (w3.drewN n4)) := ⟨sa, HIS.out, rfl, HG.out.drewN n4⟩
  unfold wireS at HE
  clear HS HG HIS
  go_wp2
  go_ret
  exact HE.out
end Go.Proofs.YtoebcbmkkhbldaaGreatDoor
