/- spec.Fits, spec.Last, upTo, equal[string]. -/
import Derived.Test.YtoebcbmkkhbldaaGreatDoorQIxs
import Derived.Test.YtoebcbmkkhbldaaGreatDoorQSta
set_option linter.unusedVariables false
namespace Go.Proofs.YtoebcbmkkhbldaaGreatDoor
open Go.RowKit Go.Mem Sais Go.Lib Go.Wire
set_option maxRecDepth 100000

def fitsB (n : Nat) (l : List Int) (m : Int) : Bool := decide (l.length = n) && decide (1 ≤ m) && l.all (fun x => decide (0 ≤ x ∧ x < m))
def FtRel (l : List Int) (m : Int) (w : World) (iv : Value) (wr : World) : Prop := ∃ k : Nat, k ≤ l.length ∧ iv = .int .i64 (k : Nat) ∧ w = wr ∧ Hid (∀ j (h : j < l.length), j < k → 0 ≤ l[j] ∧ l[j] < m)
set_option maxHeartbeats 4000000 in
theorem fits_any (n : Nat) (l : List Int) (m : Int) (v : Value) (w : World) (h : IL l w v) (hl : l.length ≤ 1073741824) (hn : n ≤ 1073741824) :
    Calls Tryz.prog 10 #[.int .i64 (n : Nat), v, .int .i64 m] w fun e w' => e = .returned (.bool (fitsB n l m)) ∧ w = w' := by
  obtain ⟨a0, c0, rfl⟩ := h.shape
  by_cases h1 : l.length = n
  · by_cases h2 : 1 ≤ m
    · have he : fitsB n l m = l.all (fun x => decide (0 ≤ x ∧ x < m)) := by unfold fitsB; rw [decide_eq_true h1, decide_eq_true h2]; rfl
      have HE : Hid (fitsB n l m = l.all (fun x => decide (0 ≤ x ∧ x < m))) := he
      subst h1
      have HI := Lib.hid h
      have z1 : ¬ m < 1 := by omega
      have HN : Hid (∀ j (h : j < l.length), ¬ (0 ≤ l[j] ∧ l[j] < m) → fitsB l.length l m = false) := fun j hj h => by
        rw [HE.out, List.all_eq_false]
        exact ⟨l[j], List.getElem_mem hj, by simpa using h⟩
      have HY : Hid ((∀ j (h : j < l.length), 0 ≤ l[j] ∧ l[j] < m) → fitsB l.length l m = true) := fun h => by
        rw [HE.out, List.all_eq_true]
        intro x hx
        obtain ⟨j, hj, rfl⟩ := List.getElem_of_mem hx
        exact decide_eq_true (h j hj)
      clear h he HE
      generalize fitsB l.length l m = r at *
      go_enter Tryz.func10, Tryz.ntmps10
      go_wp2_with fail
      go_loopw [19, 8] (fun iv _ wr => FtRel l m w iv wr) (fun iv _ _ => l.length - (RowKit.intOf iv).toNat)
      case atStart => exact ⟨0, Nat.zero_le _, rfl, rfl, fun j h h2 => by omega⟩
      case round =>
        obtain ⟨k, hk, rfl, rfl, HP⟩ := hrel
        by_cases hlt : k < l.length
        · obtain ⟨b, o, c, e, _, hcell⟩ := HI.out.cells (by omega)
          injection e with ea en ec
          subst ea ec
          have hck := hcell k hlt
          have y1 : (k : Int) < (l.length : Int) := by omega
          have HX : Hid (∀ j (h : j < l.length), j < k + 1 → (0 ≤ l[k] ∧ l[k] < m) → (0 ≤ l[j] ∧ l[j] < m)) := fun j h h2 h3 => by
            by_cases e : j = k
            · subst e; exact h3
            · exact HP.out j h (by omega)
          have HFA := Lib.hid (HN.out k hlt)
          clear hcell HI HP HN HY
          generalize l[k] = x at *
          by_cases hx : 0 ≤ x
          · by_cases hx2 : x < m
            · have HX2 : Hid (∀ j (h : j < l.length), j < k + 1 → (0 ≤ l[j] ∧ l[j] < m)) := fun j h h2 => HX.out j h h2 ⟨hx, hx2⟩
              have z2 : ¬ x < 0 := by omega
              have z3 : ¬ m ≤ x := by omega
              have z4 : decide (m ≤ x) = false := by simp; omega
              clear HFA HX
              go_wp2
              go_roundw
              case rel => exact ⟨k + 1, by omega, by go_num, rfl, HX2⟩
              case measure => simp [RowKit.intOf]; omega
            · obtain rfl := HFA.out (fun h => hx2 h.2)
              have z2 : ¬ x < 0 := by omega
              have z3 : m ≤ x := by omega
              have z4 : decide (m ≤ x) = true := by simp; omega
              clear HFA HX
              go_wp2
              go_ret
              exact ⟨rfl, rfl⟩
          · obtain rfl := HFA.out (fun h => hx h.1)
            have z2 : x < 0 := by omega
            clear HFA HX
            go_wp2
            go_ret
            exact ⟨rfl, rfl⟩
        · obtain rfl : l.length = k := by omega
          obtain rfl := HY.out (fun j hj => HP.out j hj hj)
          clear HI HP HN HY
          go_wp2
          go_ret
          exact ⟨rfl, rfl⟩
    · have he : fitsB n l m = false := by unfold fitsB; rw [decide_eq_false h2, Bool.and_false]; rfl
      have z1 : m < 1 := by omega
      rw [he]
      subst h1
      clear h he
      generalize l.length = n at *
      go_enter Tryz.func10, Tryz.ntmps10
      go_wp2
      go_ret
      exact ⟨rfl, rfl⟩
  · have he : fitsB n l m = false := by unfold fitsB; rw [decide_eq_false h1]; rfl
    have z1 : ¬ (l.length : Int) = (n : Int) := by omega
    have z2 : ((l.length : Int) != (n : Int)) = true := by simp; omega
    rw [he]
    clear h he
    generalize l.length = n2 at *
    go_enter Tryz.func10, Tryz.ntmps10
    go_wp2
    go_ret
    exact ⟨rfl, rfl⟩
theorem fits_ints {n : Nat} {l : List Int} {m : Int} (h : fitsB n l m = true) : 1 ≤ m ∧ l.length = n ∧ ∃ js : List Nat, l = ints js ∧ js.length = n ∧ ∀ j ∈ js, j < m.toNat := by
  unfold fitsB at h
  rw [Bool.and_eq_true, Bool.and_eq_true] at h
  have h1 := of_decide_eq_true h.1.1
  have h2 := of_decide_eq_true h.1.2
  have h3 := List.all_eq_true.1 h.2
  refine ⟨h2, h1, l.map Int.toNat, ?_, by rw [List.length_map]; exact h1, fun j hj => ?_⟩
  · unfold ints
    rw [List.map_map]
    refine (List.map_id'' (fun x => rfl) l).symm.trans (List.map_congr_left fun x hx => ?_)
    have := of_decide_eq_true (h3 x hx)
    simp only [Function.comp_apply, nint]
    omega
  · obtain ⟨x, hx, rfl⟩ := List.mem_map.1 hj
    have := of_decide_eq_true (h3 x hx)
    omega
/-- spec.Last -/
def LaRel (ts : List ByteArray) (js : List Nat) (k : Nat) (w : World) (ov iv : Value) (wr : World) : Prop := ∃ i : Nat, i ≤ ts.length ∧ iv = .int .i64 (i : Nat) ∧ ov = .string (lastT ts js i k) ∧ w = wr
set_option maxHeartbeats 4000000 in
theorem last_any (ts : List ByteArray) (js : List Nat) (k : Nat) (tv jv : Value) (w : World) (hT : TS ts w tv) (hJ : IL (ints js) w jv) (hjl : js.length = ts.length) (hl : ts.length ≤ 1073741824) (hk : k ≤ 1073741824) :
    Calls Tryz.prog 13 #[tv, jv, .int .i64 (k : Nat)] w fun e w' => e = .returned (.string (lastT ts js ts.length k)) ∧ w = w' := by
  have HT := Lib.hid hT
  have HJ := Lib.hid hJ
  obtain ⟨ta, tc, rfl⟩ := hT.shape
  obtain ⟨ja, jc, rfl⟩ := hJ.shape
  rw [ints_length, hjl] at HJ ⊢
  have HJL := Lib.hid hjl
  clear hT hJ hjl
  generalize hr : lastT ts js ts.length k = r
  have HRR := Lib.hid hr
  clear hr
  go_enter Tryz.func13, Tryz.ntmps13
  go_wp2_with fail
  go_loopw [7, 12, 8, 9] (fun ov iv _ _ wr => LaRel ts js k w ov iv wr) (fun _ iv _ _ _ => ts.length - (RowKit.intOf iv).toNat)
  case atStart => exact ⟨0, Nat.zero_le _, rfl, rfl, rfl⟩
  case round =>
    obtain ⟨i, hi, rfl, rfl, rfl⟩ := hrel
    by_cases hlt : i < ts.length
    · obtain ⟨b, o, c, e, _, hcell⟩ := HT.out.cells (by omega)
      injection e with ea en ec
      subst ea ec
      have hjlt : i < js.length := by rw [HJL.out]; exact hlt
      obtain ⟨b1, o1, c1, e, _, hcell1⟩ := HJ.out.cells (by rw [ints_length]; omega)
      rw [ints_length, HJL.out] at e
      injection e with ea en ec
      subst ea ec
      have hck := hcell i hlt
      have hck1 : w.cell? ⟨b1, o1 + i, none⟩ = some (.int .i64 (js[i] : Nat)) := by
        have := hcell1 i (by rw [ints_length]; exact hjlt)
        rw [this]; simp [ints, nint]
      have y1 : (i : Int) < (ts.length : Int) := by omega
      have hs : Hid (lastT ts js (i + 1) = fset (lastT ts js i) js[i] ts[i]) := by
        show fset _ _ _ = _
        simp [hlt, hjlt]
      clear hcell hcell1 HT HJ
      generalize hx : js[i] = x at *
      generalize ts[i] = t at *
      clear hx
      by_cases e : x = k
      · subst e
        have hn : Hid (lastT ts js (i + 1) x = t) := by show _ = _; rw [hs.out, fset_same]
        clear hs
        go_wp2
        go_roundw
        case rel => exact ⟨i + 1, by omega, by go_num, by rw [hn.out], rfl⟩
        case measure => simp [RowKit.intOf]; omega
      · have hn : Hid (lastT ts js (i + 1) k = lastT ts js i k) := by show _ = _; rw [hs.out, fset_other _ _ (fun h => e h.symm)]
        have z1 : ((x : Int) == (k : Int)) = false := beq_false_of_ne (by omega)
        have z2 : ¬ (x : Int) = (k : Int) := by omega
        clear hs
        go_wp2
        go_roundw
        case rel => exact ⟨i + 1, by omega, by go_num, by rw [hn.out], rfl⟩
        case measure => simp [RowKit.intOf]; omega
    · obtain rfl : i = ts.length := by omega
      have hrr := HRR.out
      clear HT HJ HRR
      rw [hrr]
      go_wp2
      go_ret
      exact ⟨rfl, rfl⟩
/-- upTo -/
def UtRel (n : Nat) (w : World) (ov iv : Value) (wr : World) : Prop := ∃ k : Nat, k ≤ n ∧ iv = .int .i64 (k : Nat) ∧ Hid (OL w.heap.size (ints (List.range k)) wr ov) ∧ Hid (Grew w wr)
theorem ints_range (k : Nat) : ints (List.range (k + 1)) = ints (List.range k) ++ [(k : Int)] := by
  unfold ints; rw [List.range_succ, List.map_append]; rfl
set_option maxHeartbeats 4000000 in
theorem upTo_any (n : Nat) (w : World) (hn : n ≤ 1073741824) : Calls Tryz.prog 16 #[.int .i64 (n : Nat)] w (MkPost (ints (List.range n)) w) := by
  go_enter Tryz.func16, Tryz.ntmps16
  go_wp2_with fail
  go_loopw [3, 6, 4] (fun ov iv _ wr => UtRel n w ov iv wr) (fun _ iv _ _ => n - (RowKit.intOf iv).toNat)
  case atStart => exact ⟨0, Nat.zero_le _, rfl, OL.nil _ _, Kept.refl _ _⟩
  case round =>
    obtain ⟨k, hk, rfl, HO, HW⟩ := hrel
    by_cases hlt : k < n
    · have y1 : (k : Int) < (n : Int) := by omega
      obtain ⟨v', w', happ, ho', hk'⟩ := append_int (k : Int) 3 23 HW.out HO.out (by rw [ints_length, List.length_range]; omega)
      rw [← ints_range] at ho'
      have HO' := Lib.hid ho'; have HK' := Lib.hid hk'
      clear ho' hk' HO HW
      go_wp2_with (at_builtin; refine wpList_append_run rfl _ _ _ _ rfl _ _ rfl rfl _ _ happ ?_)
      go_roundw
      case rel => exact ⟨k + 1, by omega, by go_num, HO', HK'⟩
      case measure => simp [RowKit.intOf]; omega
    · obtain rfl : k = n := by omega
      have HP : Hid (MkPost (ints (List.range k)) w (.returned u3) wr) := ⟨u3, rfl, HO.out.il, HW.out⟩
      clear HO HW
      go_wp2
      go_ret
      exact HP.out
/-- equal[string] -/
theorem ext_strs {l l' : List ByteArray} (h : l.length = l'.length) (e : ∀ j (h1 : j < l.length) (h2 : j < l'.length), l[j] = l'[j]) : l = l' := List.ext_getElem h e
set_option maxHeartbeats 4000000 in
theorem equal_str (l l' : List ByteArray) (a b : Value) (w : World) (h : TS l w a) (h' : TS l' w b) (hl : l.length ≤ 1073741824) (he : l = l') :
    Calls Tryz.prog 17 #[a, b] w (BPost true w) := by
  subst he
  have H1 := Lib.hid h
  have H2 := Lib.hid h'
  obtain ⟨a1, c1, rfl⟩ := h.shape
  obtain ⟨a2, c2, rfl⟩ := h'.shape
  clear h h'
  go_enter Tryz.func17, Tryz.ntmps17
  go_wp2_with fail
  go_loopw [13, 5] (fun i _ wr => ∃ k : Nat, k ≤ l.length ∧ i = .int .i64 k ∧ Hid (∃ q, wr = w.drewN q)) (fun i _ _ => l.length - (RowKit.intOf i).toNat)
  case atStart => exact ⟨0, by omega, rfl, ⟨0, rfl⟩⟩
  case round =>
    obtain ⟨k, hk, rfl, HQ⟩ := hrel
    by_cases hlt : k < l.length
    · obtain ⟨b1, o1, c1, e, _, hcell1⟩ := H1.out.cells (by omega)
      injection e with ea en ec
      subst ea ec
      obtain ⟨b2, o2, c2, e, _, hcell2⟩ := H2.out.cells (by omega)
      injection e with ea en ec
      subst ea ec
      have c1 : wr.cell? ⟨b1, o1 + k, none⟩ = some (.string l[k]) := by obtain ⟨q, rfl⟩ := HQ.out; exact hcell1 k hlt
      have c2 : wr.cell? ⟨b2, o2 + k, none⟩ = some (.string l[k]) := by obtain ⟨q, rfl⟩ := HQ.out; exact hcell2 k hlt
      have y1 : (k : Int) < (l.length : Int) := by omega
      clear hcell1 hcell2 H1 H2
      generalize l[k] = x at *
      go_wp2_with fail
      go_quiet (fail)
      go_wp2
      go_roundw
      case rel => exact ⟨k + 1, by omega, by go_num, drewEx HQ.out _⟩
      case measure => simp [RowKit.intOf]; omega
    · obtain rfl : k = l.length := by omega
      clear H1 H2
      go_wp2
      go_ret
      exact ⟨rfl, HQ.out⟩
def FsRel (m : Nat) (w : World) (iv : Value) (wr : World) : Prop := ∃ k : Nat, k ≤ m ∧ iv = .int .i64 (k : Nat) ∧ Hid (Grew w wr)
theorem map_get {α : Type} (T : Nat → α) (m k : Nat) (h : k < ((List.range m).map T).length) : ((List.range m).map T)[k] = T k := by simp
def FsaRel (m : Nat) (w : World) (iv : Value) (wr : World) : Prop := ∃ k : Nat, k ≤ m ∧ iv = .int .i64 (k : Nat) ∧ Hid (Grew w wr)
theorem lastT_range (ts : List ByteArray) : ∀ (i : Nat), i ≤ ts.length → ∀ j, j < i → lastT ts (List.range ts.length) i j = ts.getD j ⟨#[]⟩
  | 0, _, j, hj => (Nat.not_lt_zero _ hj).elim
  | i + 1, hi, j, hj => by
    have e : (List.range ts.length).getD i 0 = i := by simp [show i < ts.length by omega]
    unfold lastT
    rw [e]
    by_cases h : j = i
    · subst h; rw [fset_same]
    · rw [fset_other _ _ h]; exact lastT_range ts i (by omega) j (by omega)
theorem lastT_all (ts : List ByteArray) : (List.range ts.length).map (lastT ts (List.range ts.length) ts.length) = ts := by
  apply List.ext_getElem
  · simp
  · intro j h1 h2
    rw [List.getElem_map, List.getElem_range, lastT_range ts _ (Nat.le_refl _) j h2]
    simp [h2]
theorem lastT_zero (ts : List ByteArray) (n : Nat) : lastT ts (List.replicate n 0) ts.length 0 = ts.getD (ts.length - 1) ⟨#[]⟩ := by
  cases h : ts.length with
  | zero => rw [List.length_eq_zero_iff.1 h]; rfl
  | succ i =>
    have e : (List.replicate n 0).getD i 0 = 0 := by
      by_cases h : i < n <;> simp [h]
    unfold lastT
    rw [e, fset_same]
    rfl
theorem lastT_none (ts : List ByteArray) (n j : Nat) (hj : 0 < j) : ∀ (i : Nat), lastT ts (List.replicate n 0) i j = ⟨#[]⟩
  | 0 => rfl
  | i + 1 => by
    have e : (List.replicate n 0).getD i 0 = 0 := by
      by_cases h : i < n <;> simp [h]
    unfold lastT
    rw [e, fset_other _ _ (by omega)]
    exact lastT_none ts n j hj i
theorem Tryz.makeI64 (u : World) (n : Nat) (hn : n ≤ 1073741824) : (Instr.makeSlice 23 (.int .i64 (n : Int)) (.int .i64 (n : Int))).run Tryz.prog u =
    .ok (.slice (some ⟨u.heap.size, 0, none⟩) n n) (u.alloc (.cells (madeCells #[.int .i64 0] n) 3)) := by
  obtain ⟨i0, hi, hz0, hz1, hz2⟩ := info_parts Tryz.infoInt
  have h := run_make (P := Tryz.prog) u 23 3 i0 (.int .i64 0) Tryz.underlying23 hi hz0 .i64 .i64 (n : Int) (n : Int) (by omega) (Int.le_refl _) (by rw [hz2]; omega) (by omega)
  simpa [hz1, Value.cells] using h
theorem zeros_il (w : World) (n : Nat) : IL (ints (List.replicate n 0)) (w.alloc (.cells (madeCells #[.int .i64 0] n) 3)) (.slice (some ⟨w.heap.size, 0, none⟩) n n) := by
  have hl : (ints (List.replicate n 0)).length = n := by rw [ints_length, List.length_replicate]
  have h := IL.mk (l := ints (List.replicate n 0)) (w := w.alloc (.cells (madeCells #[.int .i64 0] n) 3)) (b := w.heap.size) (o := 0) (c := n) (by rw [hl]; exact Nat.le_refl _) (fun j hj => by
    rw [hl] at hj
    rw [(Hold.made .i64 w 3 n j hj).1]
    simp [ints, nint])
  rw [hl] at h
  exact h
end Go.Proofs.YtoebcbmkkhbldaaGreatDoor
