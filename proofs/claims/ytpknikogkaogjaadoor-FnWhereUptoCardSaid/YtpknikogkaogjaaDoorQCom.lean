/- parts, Common, Before. -/
import Derived.Test.YtpknikogkaogjaaDoorQLwMo
set_option linter.unusedVariables false
namespace Go.Proofs.YtpknikogkaogjaaDoor
open Go.RowKit Go.Mem Sais
set_option maxRecDepth 100000

theorem Tryd.infoStr : (Tryd.prog.info? 9).map (fun i => (i.zero, i.size, i.bytes)) = some (some (.string .empty), 1, 16) := by kernel_rfl
/-- append(out, x) on a list of strings -/
theorem append_str {w0 w : World} {ts : List ByteArray} {v : Value} (x : ByteArray) (t ty : TypeId) (hK : Grew w0 w) (ho : OV 9 w0.heap.size (sv ts) w v) (hz : ts.length + 1 ≤ 1099511627776) :
    ∃ v' w', (Builtin.append_ #[22, 22] ty #[v, .slice (some ⟨w.heap.size, 0, none⟩) 1 1]).run Tryd.prog (w.alloc (.cells #[.string x] t)) = .ok v' w' ∧ OV 9 w0.heap.size (sv (ts ++ [x])) w' v' ∧ Grew w0 w' := by
  obtain ⟨v', w', h1, h2, h3⟩ := append_vals (l2 := [.string x]) 22 ty 9 (.string .empty) 16 Tryd.underlying22 Tryd.infoStr rfl (fun u hu => by rw [List.mem_singleton.1 hu]; rfl) (by omega) (hK.alloc _) (ho.alloc _) (VL.lit w [.string x] t) (by rw [sv_length]; exact hz)
  exact ⟨v', w', h1, by unfold sv at *; rw [List.map_append]; exact h2, h3⟩
def partsL (s : ByteArray) (i k : Nat) : List ByteArray := (List.range k).map (part s i)
theorem partsL_succ (s : ByteArray) (i k : Nat) : partsL s i (k + 1) = partsL s i k ++ [s.extract i (i + k + 1)] := by
  unfold partsL; rw [List.range_succ, List.map_append]; rfl
theorem partsL_len (s : ByteArray) (i k : Nat) : (partsL s i k).length = k := by unfold partsL; simp
def PaRel (s : ByteArray) (i : Nat) (w : World) (ov kv : Value) (wr : World) : Prop := ∃ k : Nat, k ≤ s.size - i ∧ kv = .int .i64 ((i : Int) + (k : Int) + 1) ∧ Hid (OV 9 w.heap.size (sv (partsL s i k)) wr ov) ∧ Hid (Grew w wr)
def TsPost (ts : List ByteArray) (w : World) (e : Ending) (w' : World) : Prop := ∃ v, e = .returned v ∧ TS ts w' v ∧ Grew w w'
set_option maxHeartbeats 4000000 in
theorem parts_any (s : ByteArray) (i : Nat) (w : World) (hs : s.size ≤ 1073741824) (hi : i ≤ s.size) :
    Calls Tryd.prog 15 #[.string s, .int .i64 (i : Int)] w (TsPost (partsL s i (s.size - i)) w) := by
  go_enter Tryd.func15, Tryd.ntmps15
  go_wp2_with fail
  go_loopw [5, 6] (fun ov kv wr => PaRel s i w ov kv wr) (fun _ kv _ => s.size + 1 - (intOf kv).toNat)
  case atStart => exact ⟨0, by omega, by go_num, OV.nil _ _ _, Kept.refl _ _⟩
  case round =>
    obtain ⟨k, hk, rfl, HO, HW⟩ := hrel
    by_cases hlt : k < s.size - i
    · have y1 : (i : Int) + (k : Int) + 1 ≤ (s.size : Int) := by omega
      have y2 : (0 : Int) ≤ (i : Int) + (k : Int) + 1 := by omega
      have y3 : ((i : Int) + (k : Int) + 1).toNat = i + k + 1 := by omega
      have y4 : (i : Int) ≤ (i : Int) + (k : Int) + 1 := by omega
      obtain ⟨v', w', happ, ho', hk'⟩ := append_str (s.extract i (i + k + 1)) 9 22 HW.out HO.out (by rw [partsL_len]; omega)
      rw [← partsL_succ] at ho'
      have HO' := Lib.hid ho'; have HK' := Lib.hid hk'
      clear ho' hk' HO HW
      go_wp2_with (at_builtin; refine wpList_append_run rfl _ _ _ _ rfl _ _ rfl rfl _ _ happ ?_)
      go_roundw
      case rel => exact ⟨k + 1, by omega, by go_num, HO', HK'⟩
      case measure => simp [intOf]; omega
    · obtain rfl : k = s.size - i := by omega
      have y1 : ¬ (i : Int) + ((s.size - i : Nat) : Int) + 1 ≤ (s.size : Int) := by omega
      have HP : Hid (TsPost (partsL s i (s.size - i)) w (.returned u5) wr) := ⟨u5, rfl, HO.out.vl, HW.out⟩
      clear HO HW
      generalize s.size - i = q at *
      go_wp2
      go_ret
      exact HP.out
/-- A number, and some draws. -/
def NQ (z : Nat) (w : World) (e : Ending) (w' : World) : Prop := e = .returned (.int .i64 (z : Int)) ∧ ∃ q, w' = w.drewN q
set_option maxHeartbeats 4000000 in
theorem common_any (a b : ByteArray) (w : World) (ha : a.size ≤ 1073741824) (hb : b.size ≤ 1073741824) :
    Calls Tryd.prog 28 #[.string a, .string b] w (NQ (lcp a 0 b 0) w) := by
  have HE := Lib.hid (fun n (h1 : ∀ x, x < n → x < a.size ∧ x < b.size ∧ chr a x = chr b x) (h2 : ¬ (n < a.size ∧ n < b.size ∧ chr a n = chr b n)) => (lcp_eq (i := 0) (j := 0) (by simpa using h1) (by simpa using h2) : lcp a 0 b 0 = n))
  generalize lcp a 0 b 0 = r at *
  go_enter Tryd.func28, Tryd.ntmps28
  go_wp2_with fail
  go_loopw [5] (fun i wr => ∃ k : Nat, k ≤ a.size ∧ i = .int .i64 k ∧ Hid (∃ q, wr = w.drewN q) ∧ Hid (∀ x, x < k → x < a.size ∧ x < b.size ∧ chr a x = chr b x)) (fun i _ => a.size - (intOf i).toNat)
  case atStart => exact ⟨0, by omega, rfl, ⟨0, rfl⟩, fun j h => by omega⟩
  case round =>
    obtain ⟨k, hk, rfl, HQ, HK⟩ := hrel
    by_cases h1 : k < a.size
    · have y1 : (k : Int) < (a.size : Int) := by omega
      by_cases h2 : k < b.size
      · have y2 : (k : Int) < (b.size : Int) := by omega
        have g1 := chr_get a k h1
        have g2 := chr_get b k h2
        by_cases hx : chr a k = chr b k
        · have z1 : ((a[k].toNat : Int) == (b[k].toNat : Int)) = true := by rw [g1, g2, hx]; simp
          have HK2 : Hid (∀ x, x < k + 1 → x < a.size ∧ x < b.size ∧ chr a x = chr b x) := fun j h3 => by
            by_cases e : j = k
            · subst e; exact ⟨h1, h2, hx⟩
            · exact HK.out j (by omega)
          clear HK HE g1 g2 hx
          go_wp2_with fail
          go_quiet (fail)
          go_wp2
          go_roundw
          case rel => exact ⟨k + 1, by omega, by go_num, drewEx HQ.out _, HK2⟩
          case measure => simp [intOf]; omega
        · have z1 : ((a[k].toNat : Int) == (b[k].toNat : Int)) = false := by rw [g1, g2]; simp; omega
          obtain rfl := HE.out k HK.out (fun h => hx h.2.2)
          clear HK HE g1 g2 hx
          go_wp2_with fail
          go_quiet (fail)
          go_wp2
          go_ret
          exact ⟨rfl, drewEx HQ.out _⟩
      · have y2 : decide ((k : Int) < (b.size : Int)) = false := decide_eq_false (by omega)
        have y3 : decide (k < b.size) = false := decide_eq_false h2
        obtain rfl := HE.out k HK.out (fun h => h2 h.2.1)
        clear HK HE
        go_wp2_with fail
        go_quiet (fail)
        go_wp2
        go_ret
        exact ⟨rfl, drewEx HQ.out _⟩
    · have y2 : decide ((k : Int) < (a.size : Int)) = false := decide_eq_false (by omega)
      have y3 : decide (k < a.size) = false := decide_eq_false h1
      obtain rfl := HE.out k HK.out (fun h => h1 h.1)
      clear HK HE
      go_wp2_with fail
      go_quiet (fail)
      go_wp2
      go_ret
      exact ⟨rfl, drewEx HQ.out _⟩
theorem lcp_extract {a b : ByteArray} {i j : Nat} (hi : i ≤ a.size) (hj : j ≤ b.size) : lcp (a.extract i a.size) 0 (b.extract j b.size) 0 = lcp a i b j := by
  have key : ∀ L, L ≤ lcp (a.extract i a.size) 0 (b.extract j b.size) 0 ↔ L ≤ lcp a i b j := fun L => by
    rw [le_lcp, le_lcp, size_extract' (Nat.le_refl _), size_extract' (Nat.le_refl _)]
    constructor
    · intro h x hx
      obtain ⟨h1, h2, h3⟩ := h x hx
      rw [chr_extract _ _ _ _ (by omega) (Nat.le_refl _), chr_extract _ _ _ _ (by omega) (Nat.le_refl _), Nat.zero_add] at h3
      exact ⟨by omega, by omega, h3⟩
    · intro h x hx
      obtain ⟨h1, h2, h3⟩ := h x hx
      refine ⟨by omega, by omega, ?_⟩
      rw [chr_extract _ _ _ _ (by omega) (Nat.le_refl _), chr_extract _ _ _ _ (by omega) (Nat.le_refl _), Nat.zero_add]
      exact h3
  exact Nat.le_antisymm ((key _).1 (Nat.le_refl _)) ((key _).2 (Nat.le_refl _))
end Go.Proofs.YtpknikogkaogjaaDoor
