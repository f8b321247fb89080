/- Stands, Places. -/
import Derived.Test.YtoebcbmkkhbldaaGreatDoorQLwTu
import Derived.Test.YtoebcbmkkhbldaaGreatDoorQLks
set_option linter.unusedVariables false
namespace Go.Proofs.YtoebcbmkkhbldaaGreatDoor
open Go.RowKit Go.Mem Sais
set_option maxRecDepth 100000

theorem occ_extract {d s : ByteArray} {i : Nat} (h : i + s.size ≤ d.size) : ((d.extract i (i + s.size)).toList == s.toList) = decide (occ d s i) := by
  rw [Bool.eq_iff_iff, beq_iff_eq, decide_eq_true_eq, toList_inj]
  have z := size_extract' (s := d) (a := i) h
  constructor
  · intro e
    refine ⟨h, fun j hj => ?_⟩
    have := chr_extract d i (i + s.size) j (by omega) h
    rw [← this, e]
  · rintro ⟨_, h2⟩
    refine chr_size (by rw [z]; omega) fun j hj => ?_
    rw [z] at hj
    rw [chr_extract _ _ _ _ (by omega) h]; exact h2 j (by omega)
set_option maxHeartbeats 4000000 in
theorem stands_any (d s : ByteArray) (i : Nat) (w : World) (hd : d.size ≤ 1073741824) (hs : s.size ≤ 1073741824) (hi : i ≤ 4294967296) :
    Calls Tryz.prog 30 #[.string d, .string s, .int .i64 (i : Int)] w fun e w' => e = .returned (.bool (decide (occ d s i))) ∧ w = w' := by
  by_cases h : i + s.size ≤ d.size
  · have he := occ_extract h
    have y1 : (i : Int) ≤ (d.size : Int) - (s.size : Int) := by omega
    have y2 : (i : Int) ≤ (i : Int) + (s.size : Int) := by omega
    have y3 : (i : Int) + (s.size : Int) ≤ (d.size : Int) := by omega
    have y4 : ((i : Int) + (s.size : Int)).toNat = i + s.size := by omega
    have y5 : (0 : Int) ≤ (i : Int) + (s.size : Int) := by omega
    generalize decide (occ d s i) = r at *
    go_enter Tryz.func30, Tryz.ntmps30
    go_wp2
    go_ret
    exact ⟨rfl, rfl⟩
  · have e : decide (occ d s i) = false := decide_eq_false fun h2 => h h2.1
    rw [e]
    have y1 : ¬ (i : Int) ≤ (d.size : Int) - (s.size : Int) := by omega
    clear e
    go_enter Tryz.func30, Tryz.ntmps30
    go_wp2
    go_ret
    exact ⟨rfl, rfl⟩
/-- A list of ints that was made. -/
def MkPost (l : List Int) (w : World) (e : Ending) (w' : World) : Prop := ∃ v, e = .returned v ∧ IL l w' v ∧ Grew w w'
def occB (d s : ByteArray) (i : Nat) : Bool := decide (occ d s i)
set_option maxHeartbeats 4000000 in
theorem places_any (d s : ByteArray) (w : World) (hd : d.size ≤ 1073741824) (hs : s.size ≤ 1073741824) :
    Calls Tryz.prog 15 #[.string d, .string s] w (MkPost (ints (places d s)) w) := by
  have HS := Lib.hid (fun i u (hi : i ≤ d.size) => (stands_any d s i u hd hs (by omega)))
  by_cases h0 : s.size = 0
  · have hn : s.toList = [] := toList_nil.2 h0
    have hp : Hid (places d s = []) := places_nil d h0
    clear h0
    go_enter Tryz.func15, Tryz.ntmps15
    go_wp2_with fail
    go_loop [5, 9, 6] (fun o i _ => ∃ k : Nat, k ≤ d.size ∧ i = .int .i64 k ∧ o = .slice none 0 0) (fun _ i _ => d.size - (intOf i).toNat)
    case atStart => exact ⟨0, by omega, rfl, rfl⟩
    case round =>
      obtain ⟨k, hk, rfl, rfl⟩ := hrel
      by_cases hlt : k < d.size
      · have y1 : (k : Int) < (d.size : Int) := by omega
        go_wp2
        go_round
        case rel => exact ⟨k + 1, by omega, by go_num, rfl⟩
        case measure => simp [intOf]; omega
      · obtain rfl : k = d.size := by omega
        go_wp2
        go_ret
        exact ⟨_, rfl, by rw [hp.out]; exact IL.nil _ _, Kept.refl _ _⟩
  · have hn : ¬ s.toList = [] := fun h => h0 (toList_nil.1 h)
    have hn2 : s.toList.isEmpty = false := by simpa using hn
    have hp : Hid (places d s = (List.range d.size).filter (occB d s)) := by unfold places; exact if_neg h0
    clear h0
    go_enter Tryz.func15, Tryz.ntmps15
    go_wp2_with fail
    go_loopw [5, 9, 6] (fun ov i _ wr => RgRel (occB d s) d.size w ov i wr) (fun _ i _ _ => d.size - (intOf i).toNat)
    case atStart => exact ⟨0, by omega, rfl, OL.nil _ _, Kept.refl _ _⟩
    case round =>
      obtain ⟨k, hk, rfl, HO, HW⟩ := hrel
      by_cases hlt : k < d.size
      · have y1 : (k : Int) < (d.size : Int) := by omega
        have HC := Lib.hid (HS.out k wr (by omega))
        by_cases hf : occB d s k = true
        · rw [show decide (occ d s k) = true from hf] at HC
          obtain ⟨v', w', happ, ho', hk'⟩ := append_int (k : Int) 3 23 HW.out HO.out (by have := range_len (occB d s) k; omega)
          rw [← range_yes hf] at ho'
          have HO' := Lib.hid ho'; have HK' := Lib.hid hk'
          clear ho' hk' HO HW hf HS hp
          go_wp2_with (first | (go_at_call 30; (with_reducible refine HC.out.mono ?_); rintro e w' ⟨rfl, rfl⟩) | (at_builtin; refine wpList_append_run rfl _ _ _ _ rfl _ _ rfl rfl _ _ happ ?_))
          go_roundw
          case rel => exact ⟨k + 1, by omega, by go_num, HO', HK'⟩
          case measure => simp [intOf]; omega
        · have hf : occB d s k = false := by simpa using hf
          rw [show decide (occ d s k) = false from hf] at HC
          have HO' : Hid (OL w.heap.size (ints ((List.range (k + 1)).filter (occB d s))) wr u5) := by rw [range_no hf]; exact HO.out
          clear HO hf HS hp
          go_wp2_with (first | (go_at_call 30; (with_reducible refine HC.out.mono ?_); rintro e w' ⟨rfl, rfl⟩))
          go_roundw
          case rel => exact ⟨k + 1, by omega, by go_num, HO', HW⟩
          case measure => simp [intOf]; omega
      · obtain rfl : k = d.size := by omega
        have HP : Hid (MkPost (ints (places d s)) w (.returned u5) wr) := ⟨u5, rfl, by rw [hp.out]; exact HO.out.il, HW.out⟩
        clear HO HW HS hp
        go_wp2
        go_ret
        exact HP.out
end Go.Proofs.YtoebcbmkkhbldaaGreatDoor
