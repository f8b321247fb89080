/- impl.Cut, FnCut. -/
import Derived.Test.YtoebcbmkkhbldaaGreatDoorQCt3
import Derived.Test.YtoebcbmkkhbldaaGreatDoorQAgn
set_option linter.unusedVariables false
namespace Go.Proofs.YtoebcbmkkhbldaaGreatDoor
open Go.RowKit Go.Mem Sais Go.Lib Go.Wire
set_option maxRecDepth 100000

/-- The parts of a stream that is cut behind the first header. -/
theorem cut_parts (s : ByteArray) (sa : Nat → Int) (m : Nat) (hs : s.size ≤ 1073741824) (h1 : 10 ≤ m) (h2 : m < (wireS s sa).length) : ∃ z, (wireS s sa).take m = first s.size ++ z ∧ ZCut (chr s) s.size sa z := by
  have hfl := first_len hs
  have hw : wireS s sa = first s.size ++ (bts (chr s) s.size ++ chunks (first s.size) (numsOf sa s.size)) := by
    have := wire_parts (bts (chr s) s.size) (numsOf sa s.size) []
    rw [bts_len] at this
    simpa [wireS] using this
  rw [hw] at h2 ⊢
  rw [List.length_append, List.length_append, hfl, bts_len] at h2
  rw [List.take_append, hfl, List.take_of_length_le (by omega)]
  refine ⟨_, rfl, ?_⟩
  by_cases h3 : m - 10 < s.size
  · exact .inl (by rw [List.length_take]; omega)
  · refine .inr ⟨(chunks (first s.size) (numsOf sa s.size)).take (m - 10 - s.size), ?_, _, by omega, rfl⟩
    rw [List.take_append, bts_len, List.take_of_length_le (by rw [bts_len]; omega)]
theorem take_extract (l : List UInt8) (m : Nat) : ((⟨l.toArray⟩ : ByteArray).extract 0 m).data.toList = l.take m := by
  rw [ByteArray.data_extract]
  simp
def CuPost (m n : Nat) (w : World) (e : Ending) (w' : World) : Prop := e = .returned (.bool (decide (m < n))) ∧ Grew w w'
/-- Read over a part of what was written, or over all of it. -/
theorem read_part (s : ByteArray) (b q xb sb m : Nat) (sa : Nat → Int) (w0 w : World) (hO : Own w xb sb sb 0 0 none) (hs : s.size ≤ 1048576) (hI : IsSA (chr s) s.size sa) (hm : m ≤ (wireS s sa).length) (hS : RB b q ((wireS s sa).take m) w) (hmax : MaxIs w) (hE : Errs w0.heap.size w) (h0 : Grew w0 w) (hb : w0.heap.size ≤ b) (hq : w0.heap.size ≤ q) (hx : w0.heap.size ≤ xb) (hsb : w0.heap.size ≤ sb) (hgm : 0 < w0.heap.size) (hDx : ¬ DB b q xb) (hDs : ¬ DB b q sb) :
    Calls Tryz.prog 26 #[.pointer (some ⟨xb, 0, none⟩), .iface 56 (.pointer (some ⟨b, 0, none⟩))] w fun e w' => (m = (wireS s sa).length ∧ e = .returned .nilIface ∨ m < (wireS s sa).length ∧ ∃ a, e = .returned (.iface 144 (.pointer (some a)))) ∧ Grew w0 w' := by
  have hox : ∀ w', Kept (OX (DB b q) xb sb sb) w w' → Grew w0 w' := fun w' hk => h0.trans' hk fun x o hx hh => by
    rcases hh with (hh | hh) | hh | hh | hh <;> omega
  by_cases h1 : m < (wireS s sa).length
  · have hcut : ∀ e w', RxcPost b q xb sb sb w e w' → (m = (wireS s sa).length ∧ e = .returned .nilIface ∨ m < (wireS s sa).length ∧ ∃ a, e = .returned (.iface 144 (.pointer (some a)))) ∧ Grew w0 w' := fun e w' ⟨v, he, ⟨a, ha⟩, hk⟩ => ⟨.inr ⟨h1, a, by rw [he, ha]⟩, hox w' hk⟩
    by_cases h2 : m < 10
    · exact (index_ReadCut0 b q w0.heap.size xb sb sb 0 0 none _ w hO hS (by rw [List.length_take]; omega) hE h0.size hb hq).mono hcut
    · obtain ⟨z, hz, hc⟩ := cut_parts s sa m (by omega) (by omega) h1
      rw [hz] at hS
      exact (index_ReadCut b q w0.heap.size xb sb sb 0 0 s.size none (chr s) sa z w hO (by omega) (fun i _ => chr_lt s i) hI hS hc hmax (fun h => by rcases h with h | h <;> omega) (by omega) hDx hDs hDs hE h0.size hb hq hx hsb hsb).mono hcut
  · have hS' : RB b q (wireS s sa ++ []) w := by
      rw [List.append_nil]
      rwa [List.take_of_length_le (by omega)] at hS
    refine (read_buffer s b q xb sb sb 0 0 none sa [] w hO (by omega) hI hS' hmax (fun h => by rcases h with h | h <;> omega) (by omega) hDx hDs hDs).mono ?_
    rintro e w' ⟨he, tb', sb', c', d', _, _, _, hK, _⟩
    exact ⟨.inl ⟨by omega, he⟩, hox w' hK⟩
set_option maxHeartbeats 4000000 in
theorem cut_any (s : ByteArray) (sa0 : Nat → Int) (m : Nat) (w : World) (hs : s.size ≤ 1048576) (hI0 : IsSA (chr s) s.size sa0) (hm : m ≤ (wireS s sa0).length) (hmax : MaxIs w) (hE : Errs w.heap.size w) :
    Calls Tryz.prog 23 #[.string s, .int .i64 (m : Nat)] w (CuPost m (wireS s sa0).length w) := by
  have HNN := Lib.hid (new_nil w hmax)
  have HM := Lib.hid hmax
  have HE := Lib.hid hE
  have hgm := World.block_lt_of_cell? w _ hmax
  have HUN : Hid (∀ sa, IsSA (chr s) s.size sa → (wireS s sa).length = (wireS s sa0).length) := fun sa h => by rw [wireS_uniq h hI0]
  clear hmax hE hI0
  generalize (wireS s sa0).length = n at *
  go_enter Tryz.func23, Tryz.ntmps23
  go_wp2_with fail
  refine HNN.out.mono ?_
  rintro e w1 ⟨xb, sb, rfl, hO1, hx, hsb, hk1⟩
  have HC1 := Lib.hid (written_any s w1 (by omega) (HM.out.grew hk1))
  have HO1 := Lib.hid hO1
  have HK1 := Lib.hid hk1
  have hxl := hO1.lx
  have hsl := hO1.ls
  clear hO1 hk1 HNN
  go_wp2_with fail
  refine HC1.out.mono ?_
  rintro e w2 ⟨sa, hI, rfl, hk2⟩
  have hwl := wireS_len s sa (by omega) hI
  have HIS := Lib.hid hI
  have hsz : (⟨(wireS s sa).toArray⟩ : ByteArray).size = (wireS s sa).length := by simp [ByteArray.size]
  have hun := HUN.out sa hI
  rw [hun] at hwl hsz
  have hms : m ≤ (⟨(wireS s sa).toArray⟩ : ByteArray).size := by rw [hsz]; exact hm
  have HNB := Lib.hid (newBufferString ((⟨(wireS s sa).toArray⟩ : ByteArray).extract 0 m) w2 (by rw [ByteArray.size_extract]; omega))
  have HSTR := Lib.hid (take_extract (wireS s sa) m)
  have hs2 := hk2.size
  have HK2 := Lib.hid (HK1.out.trans hk2)
  have HO2 := Lib.hid (HO1.out.kept hk2 (fun _ h => h) (fun _ h => h) (fun _ h => h))
  have HHM : Hid (m ≤ (wireS s sa).length) := by show _ ≤ _; rw [hun]; exact hm
  have HLN := Lib.hid hun
  clear HC1 hI hk2 HO1 hsz hwl hun hm HUN
  generalize (⟨(wireS s sa).toArray⟩ : ByteArray) = str at *
  have y1 : (m : Int) ≤ (str.size : Int) := by omega
  have y2 : (0 : Int) ≤ (m : Int) := by omega
  have y3 : (m : Int).toNat = m := by omega
  go_wp2_with fail
  refine HNB.out.mono ?_
  rintro e w3 ⟨b, q, rfl, hR3, hk3, hb, hq⟩
  rw [HSTR.out] at hR3
  have hs1 := HK1.out.size
  have hg3 := HK2.out.trans hk3
  have hrp := (read_part s b q xb sb m sa w w3 (HO2.out.kept hk3 (fun _ h => h) (fun _ h => h) (fun _ h => h)) hs HIS.out HHM.out hR3 (HM.out.grew hg3) (HE.out.kept hg3 fun _ _ _ h => h) hg3 (by omega) (by omega) hx hsb hgm (fun h => by rcases h with h | h <;> omega) (fun h => by rcases h with h | h <;> omega))
  rw [HLN.out] at hrp
  have HRP := Lib.hid hrp
  clear hrp hR3 hk3 hg3 HNB HSTR HK2 HO2 HIS HM HE y1 y3 hms HLN HHM
  go_wp2_with fail
  refine HRP.out.mono ?_
  rintro e w4 ⟨⟨h1, rfl⟩ | ⟨h1, a, rfl⟩, hk4⟩
  · have HQ : Hid (CuPost m n w (.returned (.bool false)) w4) := ⟨by rw [decide_eq_false (by omega)], hk4⟩
    clear HRP hk4
    go_wp2
    go_ret
    exact HQ.out
  · have HQ : Hid (CuPost m n w (.returned (.bool true)) w4) := ⟨by rw [decide_eq_true h1], hk4⟩
    clear HRP hk4
    go_wp2
    go_ret
    exact HQ.out
set_option maxHeartbeats 4000000 in
theorem fnCut_any (s : ByteArray) (mi : Int) (w : World) (hs : s.size ≤ 1048576) (hmax : MaxIs w) (hE : Errs w.heap.size w) :
    Calls Tryz.prog 9 #[.string s, .int .i64 mi] w (GB true w) := by
  have HC1 := Lib.hid (written_any s w (by omega) hmax)
  have HM := Lib.hid hmax
  have HE := Lib.hid hE
  clear hmax hE
  go_enter Tryz.func9, Tryz.ntmps9
  go_wp2_with fail
  refine HC1.out.mono ?_
  rintro e w1 ⟨sa, hI, rfl, hk1⟩
  have hwl := wireS_len s sa (by omega) hI
  have HIS := Lib.hid hI
  have HK1 := Lib.hid hk1
  have hsz : (⟨(wireS s sa).toArray⟩ : ByteArray).size = (wireS s sa).length := by simp [ByteArray.size]
  have HA := Lib.hid (awake_any w1 (HM.out.grew hk1))
  have HE1 : Hid (Errs w1.heap.size w1) := by
    have h := HE.out.kept hk1 fun _ _ _ h => h
    exact ⟨h.eof, h.unx, Nat.lt_of_lt_of_le h.l1 hk1.size, Nat.lt_of_lt_of_le h.l2 hk1.size⟩
  have HCU := Lib.hid (fun m (hm : m ≤ (wireS s sa).length) => cut_any s sa m w1 hs hI hm (HM.out.grew hk1) HE1.out)
  have hn0 : 10 ≤ (wireS s sa).length := hwl.2
  clear hI hk1 HC1 HM HE HIS HE1 hwl
  generalize (⟨(wireS s sa).toArray⟩ : ByteArray) = str at *
  generalize (wireS s sa).length = n at *
  subst hsz
  have hn1 : (0 : Int) < (str.size : Int) := by omega
  have hn2 : 0 < str.size := by omega
  by_cases h1 : mi < 0
  · clear HCU
    go_wp2_with fail
    refine HA.out.mono ?_
    rintro e w2 ⟨rfl, k2⟩
    clear HA
    go_wp2
    go_ret
    exact ⟨rfl, HK1.out.trans k2⟩
  · obtain ⟨m, rfl⟩ : ∃ m : Nat, mi = (m : Int) := ⟨mi.toNat, by omega⟩
    by_cases h2 : str.size < m
    · have z1 : (str.size : Int) < (m : Int) := by omega
      have z2 : decide ((str.size : Int) < (m : Int)) = true := by simp; omega
      clear HCU
      go_wp2_with fail
      refine HA.out.mono ?_
      rintro e w2 ⟨rfl, k2⟩
      clear HA
      go_wp2
      go_ret
      exact ⟨rfl, HK1.out.trans k2⟩
    · have z1 : ¬ (str.size : Int) < (m : Int) := by omega
      have z2 : decide ((str.size : Int) < (m : Int)) = false := by simp; omega
      have HC := HCU.out m (by omega)
      clear HCU HA
      by_cases h3 : m < str.size
      · unfold CuPost at HC
        rw [decide_eq_true h3] at HC
        replace HC := Lib.hid HC
        have z3 : (m : Int) < (str.size : Int) := by omega
        have z4 : decide ((m : Int) < (str.size : Int)) = true := by simp; omega
        go_wp2_with fail
        refine HC.out.mono ?_
        rintro e w2 ⟨rfl, k2⟩
        clear HC
        go_wp2
        go_ret
        exact ⟨rfl, HK1.out.trans k2⟩
      · unfold CuPost at HC
        rw [decide_eq_false h3] at HC
        replace HC := Lib.hid HC
        have z3 : ¬ (m : Int) < (str.size : Int) := by omega
        have z4 : decide ((m : Int) < (str.size : Int)) = false := by simp; omega
        go_wp2_with fail
        refine HC.out.mono ?_
        rintro e w2 ⟨rfl, k2⟩
        clear HC
        go_wp2
        go_ret
        exact ⟨rfl, HK1.out.trans k2⟩
end Go.Proofs.YtoebcbmkkhbldaaGreatDoor
