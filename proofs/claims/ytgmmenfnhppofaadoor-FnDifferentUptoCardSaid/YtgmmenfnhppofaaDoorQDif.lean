/- Different. -/
import Derived.Test.YtgmmenfnhppofaaDoorQLwFr
set_option linter.unusedVariables false
namespace Go.Proofs.YtgmmenfnhppofaaDoor
open Go.RowKit Go.Mem Sais
set_option maxRecDepth 100000

def diffB (d : ByteArray) (L i : Nat) : Bool := decide ((places d (txt d L i)).head? = some i)
def difL (d : ByteArray) (L k : Nat) : List ByteArray := ((List.range k).filter (diffB d L)).map (txt d L)
theorem difL_yes {d : ByteArray} {L k : Nat} (h : diffB d L k = true) : difL d L (k + 1) = difL d L k ++ [txt d L k] := by
  unfold difL; rw [List.range_succ, List.filter_append, List.map_append]; simp [h]
theorem difL_no {d : ByteArray} {L k : Nat} (h : diffB d L k = false) : difL d L (k + 1) = difL d L k := by
  unfold difL; rw [List.range_succ, List.filter_append, List.map_append]; simp [h]
theorem difL_len (d : ByteArray) (L k : Nat) : (difL d L k).length ≤ k := by
  unfold difL; rw [List.length_map]; exact Nat.le_trans (List.length_filter_le _ _) (by simp)
def DiRel (d : ByteArray) (L : Nat) (w : World) (ov iv : Value) (wr : World) : Prop := ∃ k : Nat, k ≤ d.size - L + 1 ∧ iv = .int .i64 k ∧ Hid (OV 9 w.heap.size (sv (difL d L k)) wr ov) ∧ Hid (Grew w wr)
theorem head_ints {d : ByteArray} {L k : Nat} (hL : 0 < L) (hk : k + L ≤ d.size) : ∃ p rest, places d (txt d L k) = p :: rest ∧ p ≤ d.size := by
  have h1 : k ∈ places d (txt d L k) := (mem_txt hL hk).2 ⟨hk, rfl⟩
  cases h : places d (txt d L k) with
  | nil => rw [h] at h1; cases h1
  | cons p rest =>
    have : p ∈ places d (txt d L k) := by rw [h]; simp
    have := (mem_places.1 this).2.1
    exact ⟨p, rest, rfl, by omega⟩
set_option maxHeartbeats 4000000 in
theorem different_any (d : ByteArray) (L : Nat) (w : World) (hd : d.size ≤ 1048576) (hL : 0 < L) (hL2 : L ≤ d.size) :
    Calls Tryd.prog 40 #[.string d, .int .i64 (L : Int)] w (TsPost (difL d L (d.size - L + 1)) w) := by
  go_enter Tryd.func40, Tryd.ntmps40
  go_wp2_with fail
  go_loopw [5, 6, 7] (fun ov i _ wr => DiRel d L w ov i wr) (fun _ i _ _ => d.size - L + 1 - (intOf i).toNat)
  case atStart => exact ⟨0, by omega, rfl, OV.nil _ _ _, Kept.refl _ _⟩
  case round =>
    obtain ⟨k, hk, rfl, HO, HW⟩ := hrel
    by_cases hlt : k < d.size - L + 1
    · have y1 : (k : Int) + (L : Int) ≤ (d.size : Int) := by omega
      have y2 : (0 : Int) ≤ (k : Int) + (L : Int) := by omega
      have y3 : ((k : Int) + (L : Int)).toNat = k + L := by omega
      have y4 : (k : Int) ≤ (k : Int) + (L : Int) := by omega
      obtain ⟨p, rest, hp, hpd⟩ := head_ints (d := d) hL (show k + L ≤ d.size by omega)
      have HC := Lib.hid (places_any d (txt d L k) wr (by omega) (by unfold txt; rw [size_extract' (by omega)]; omega))
      have hdb : diffB d L k = decide (p = k) := by unfold diffB; rw [hp]; simp
      have ht : Hid (txt d L k = d.extract k (k + L)) := rfl
      have HPI := Lib.hid (show ints (places d (txt d L k)) = (p : Int) :: ints rest by rw [hp]; rfl)
      have HHB := Lib.hid hdb
      clear hp hdb
      rw [ht.out] at HC HPI
      go_wp2_with fail
      refine HC.out.mono ?_
      rintro e w1 ⟨v1, rfl, i1, k1⟩
      rw [HPI.out] at i1
      obtain ⟨b1, o1, c1, rfl, _, hcell⟩ := i1.cells (by simp)
      have cx : w1.cell? ⟨b1, o1, none⟩ = some (.int .i64 (p : Int)) := hcell 0 (by simp)
      obtain ⟨n1, hn1⟩ : ∃ n1, ((p : Int) :: ints rest).length = n1 := ⟨_, rfl⟩
      rw [hn1]
      have y5 : 0 < (n1 : Int) := by rw [← hn1]; simp
      have y6 : 0 < n1 := by omega
      have HW1 := Lib.hid (HW.out.trans k1)
      have HO1 := Lib.hid (HO.out.grew k1)
      clear HC i1 k1 hcell hn1 HPI HO HW
      by_cases f1 : p = k
      · have hf : diffB d L k = true := by rw [HHB.out]; exact decide_eq_true f1
        obtain ⟨v', w', happ, ho', hk'⟩ := append_str (d.extract k (k + L)) 9 41 HW1.out HO1.out (by have := difL_len d L k; omega)
        rw [← ht.out, ← difL_yes hf] at ho'
        have HO' := Lib.hid ho'; have HK' := Lib.hid hk'
        subst f1
        clear ho' hk' HO1 HW1 hf HHB ht
        go_wp2_with (at_builtin; refine wpList_append_run rfl _ _ _ _ rfl _ _ rfl rfl _ _ happ ?_)
        go_roundw
        case rel => exact ⟨p + 1, by omega, by go_num, HO', HK'⟩
        case measure => simp [intOf]; omega
      · have hf : diffB d L k = false := by rw [HHB.out]; exact decide_eq_false f1
        have HO' : Hid (OV 9 w.heap.size (sv (difL d L (k + 1))) w1 u5) := by rw [difL_no hf]; exact HO1.out
        have z1 : ((p : Int) == (k : Int)) = false := beq_false_of_ne (by omega)
        have z2 : ¬ (p : Int) = (k : Int) := by omega
        clear HO1 hf HHB ht
        go_wp2
        go_roundw
        case rel => exact ⟨k + 1, by omega, by go_num, HO', HW1⟩
        case measure => simp [intOf]; omega
    · obtain rfl : k = d.size - L + 1 := by omega
      have y1 : ¬ ((d.size - L + 1 : Nat) : Int) + (L : Int) ≤ (d.size : Int) := by omega
      have HP : Hid (TsPost (difL d L (d.size - L + 1)) w (.returned u5) wr) := ⟨u5, rfl, HO.out.vl, HW.out⟩
      clear HO HW
      have hq : d.size - L + 1 ≤ 1048577 := by omega
      generalize d.size - L + 1 = q at *
      have y2 : ¬ q + L ≤ d.size := by omega
      go_wp2
      go_ret
      exact HP.out
end Go.Proofs.YtgmmenfnhppofaaDoor
