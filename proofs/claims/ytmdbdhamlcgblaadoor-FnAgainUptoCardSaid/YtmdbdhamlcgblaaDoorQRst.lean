/- impl.Rest, FnRest, FnWrittenPieces. -/
import Derived.Test.YtmdbdhamlcgblaaDoorQRdy
import Derived.Test.YtmdbdhamlcgblaaDoorQNbs
import Derived.Laws.IdiomStrings
set_option linter.unusedVariables false
namespace Go.Proofs.YtmdbdhamlcgblaaDoor
open Go.RowKit Go.Mem Sais Go.Lib Go.Wire
set_option maxRecDepth 100000

def RtPost (t : ByteArray) (w : World) (e : Ending) (w' : World) : Prop := e = .returned (.tuple #[.string t, .bool true]) ∧ Grew w w'
/-- An index that is read from a buffer. -/
theorem read_buffer (s : ByteArray) (b q xb tb sb c n0 : Nat) (d : Option Addr) (sa : Nat → Int) (rest : List UInt8) (w : World) (hO : Own w xb tb sb c n0 d) (hs : s.size ≤ 1073741824) (hI : IsSA (chr s) s.size sa) (hS : RB b q (wireS s sa ++ rest) w) (hmax : MaxIs w) (hDm : ¬ DB b q 0) (hxm : xb ≠ 0) (hDx : ¬ DB b q xb) (hDt : ¬ DB b q tb) (hDs : ¬ DB b q sb) :
    Calls Tryd.prog 13 #[.pointer (some ⟨xb, 0, none⟩), .iface 33 (.pointer (some ⟨b, 0, none⟩))] w (IrPost (RB b q) (DB b q) rest xb tb sb s.size (chr s) sa w) :=
  index_Read (buffer_Rdr b q) xb tb sb c n0 s.size d (chr s) sa rest w hO hs (fun i _ => chr_lt s i) hI hS hmax hDm hxm hDx hDt hDs
set_option maxHeartbeats 4000000 in
theorem rest_any (s t : ByteArray) (w : World) (hs : s.size ≤ 1073741824) (ht : t.size ≤ 68719476736) (hmax : MaxIs w) :
    Calls Tryd.prog 7 #[.string s, .string t] w (RtPost t w) := by
  have HC1 := Lib.hid (written_any s w hs hmax)
  have HM := Lib.hid hmax
  have hgm := World.block_lt_of_cell? w _ hmax
  clear hmax
  go_enter Tryd.func7, Tryd.ntmps7
  go_wp2_with fail
  refine HC1.out.mono ?_
  rintro e w1 ⟨sa, hI, rfl, hk1⟩
  have hwl := wireS_len s sa hs hI
  have HIS := Lib.hid hI
  have HK1 := Lib.hid hk1
  have hsz : (⟨(wireS s sa).toArray⟩ : ByteArray).size = (wireS s sa).length := by simp [ByteArray.size]
  have hlim : ¬ (9223372036854775807 : Int) < (((⟨(wireS s sa).toArray⟩ : ByteArray).size : Nat) : Int) + ((t.size : Nat) : Int) := by rw [hsz]; omega
  clear HC1 hI hk1
  have hstr : ((⟨(wireS s sa).toArray⟩ : ByteArray) ++ t).data.toList = wireS s sa ++ t.data.toList := by simp
  have hsz2 : ((⟨(wireS s sa).toArray⟩ : ByteArray) ++ t).size ≤ 1099511627776 := by rw [ByteArray.size_append, hsz]; omega
  have HNB := Lib.hid (newBufferString ((⟨(wireS s sa).toArray⟩ : ByteArray) ++ t) w1 hsz2)
  have HSTR := Lib.hid hstr
  clear hstr hsz2 hsz
  go_wp2_with fail
  refine HNB.out.mono ?_
  rintro e w2 ⟨b, q, rfl, hR2, hk2, hb, hq⟩
  rw [HSTR.out] at hR2
  have hbq : b < w2.heap.size ∧ q < w2.heap.size := by
    obtain ⟨l, off, cap, lr, h, _⟩ := hR2
    exact ⟨h.lt.2, h.lt.1⟩
  have hk12 := HK1.out.trans hk2
  have HNN := Lib.hid (new_nil w2 (HM.out.grew hk12))
  have HR2 := Lib.hid hR2
  have HK2 := Lib.hid hk12
  have hs1 := HK1.out.size
  clear hR2 hk2 hk12 HNB HSTR hlim
  generalize ((⟨(wireS s sa).toArray⟩ : ByteArray) ++ t) = str at *
  generalize (⟨(wireS s sa).toArray⟩ : ByteArray) = str1 at *
  go_wp2_with fail
  refine HNN.out.mono ?_
  rintro e w3 ⟨xb, sb, rfl, hO3, hx, hsb, hk3⟩
  have HRB := Lib.hid (read_buffer s b q xb sb sb 0 0 none sa t.data.toList w3 hO3 hs HIS.out (HR2.out.kept hk3 fun _ _ _ h => h) (HM.out.grew (HK2.out.trans hk3)) (fun h => by rcases h with h | h <;> omega) (by omega) (fun h => by rcases h with h | h <;> omega) (fun h => by rcases h with h | h <;> omega) (fun h => by rcases h with h | h <;> omega))
  have HK3 := Lib.hid (HK2.out.trans hk3)
  have hs3 := HK3.out.size
  have hs2 := HK2.out.size
  clear hO3 hk3 HNN HR2 HIS HM
  go_wp2_with fail
  refine HRB.out.mono ?_
  rintro e w4 ⟨rfl, tb', sb', c', d', _, _, hR4, hK4, _⟩
  have HK4 : Hid (Grew w w4) := HK3.out.trans' hK4 fun x o hxx hh => by
    rcases hh with (hh | hh) | hh | hh | hh <;> omega
  have HST := Lib.hid (fun n => buffer_String (hR4.kept ((Kept.refl (fun _ _ => False) w4).drewN n) fun _ _ _ h => h))
  have he : (⟨t.data.toList.toArray⟩ : ByteArray) = t := by cases t; simp
  rw [he] at HST
  clear hR4 hK4 HRB HK3 HK2 he
  go_wp2_with fail
  go_quiet ((go_at_call 14; exact Calls.quiet_of (HST.out _)))
  go_wp2
  go_ret2
  exact ⟨rfl, HK4.out.drewN _⟩
theorem str_nil {a : ByteArray} : a.toList = [] ↔ a.size = 0 := by
  rw [ByteArray.toList_eq]
  constructor
  · intro e
    have := congrArg List.length e
    simpa using this
  · intro e
    refine List.length_eq_zero_iff.1 ?_
    rw [Array.length_toList]; exact e
/-- FnRest -/
theorem fnRest_any (s t : ByteArray) (w : World) (hs : s.size ≤ 1073741824) (ht : t.size ≤ 1073741824) (hmax : MaxIs w) :
    Calls Tryd.prog 3 #[.string s, .string t] w (GB true w) := by
  have HC := Lib.hid (rest_any s t w hs (by omega) hmax)
  clear hmax
  go_enter Tryd.func3, Tryd.ntmps3
  go_wp2_with fail
  refine HC.out.mono ?_
  rintro e w1 ⟨rfl, hk⟩
  have HK := Lib.hid hk
  clear hk HC
  go_wp2
  go_ret
  exact ⟨rfl, HK.out⟩
/-- FnWrittenPieces -/
theorem fnWrittenPieces_any (s t : ByteArray) (w : World) (hs : s.size ≤ 1073741824) (ht : t.size ≤ 1073741824) (hmax : MaxIs w) :
    Calls Tryd.prog 4 #[.string s, .string t] w (GB true w) := by
  have HC1 := Lib.hid (written_any t w ht hmax)
  have HM := Lib.hid hmax
  clear hmax
  go_enter Tryd.func4, Tryd.ntmps4
  go_wp2_with fail
  refine HC1.out.mono ?_
  rintro e w1 ⟨sa, hI, rfl, hk1⟩
  have hwl := wireS_len t sa ht hI
  have hne := wireS_ne t sa ht
  have hsz : (⟨(wireS t sa).toArray⟩ : ByteArray).size = (wireS t sa).length := by simp [ByteArray.size]
  have HC2 := Lib.hid (rest_any s ⟨(wireS t sa).toArray⟩ w1 hs (by rw [hsz]; omega) (HM.out.grew hk1))
  have HK1 := Lib.hid hk1
  have hn1 : ¬ (⟨(wireS t sa).toArray⟩ : ByteArray).toList = [] := fun h => by have := str_nil.1 h; rw [hsz] at this; omega
  have hn2 : (⟨(wireS t sa).toArray⟩ : ByteArray).toList.isEmpty = false := by simpa using hn1
  clear HC1 hI hk1 hwl hne hsz
  generalize (⟨(wireS t sa).toArray⟩ : ByteArray) = str at *
  go_wp2_with fail
  refine HC2.out.mono ?_
  rintro e w2 ⟨rfl, hk⟩
  have HK := Lib.hid (HK1.out.trans hk)
  clear hk HC2
  go_wp2
  go_ret
  exact ⟨rfl, HK.out⟩
end Go.Proofs.YtmdbdhamlcgblaaDoor
