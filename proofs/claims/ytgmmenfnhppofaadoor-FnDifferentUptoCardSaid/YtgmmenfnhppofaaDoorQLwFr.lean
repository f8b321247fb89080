/- FnFree. -/
import Derived.Test.YtgmmenfnhppofaaDoorQSta
import Derived.Test.YtgmmenfnhppofaaDoorQLwRe
set_option linter.unusedVariables false
namespace Go.Proofs.YtgmmenfnhppofaaDoor
open Go.RowKit Go.Mem Sais
set_option maxRecDepth 100000

/-- One byte. -/
def one (c : Nat) : ByteArray := ⟨(bts (fun _ => c) 1).toArray⟩
theorem one_size (c : Nat) : (one c).size = 1 := rfl
theorem one_chr {c : Nat} (h : c < 256) : chr (one c) 0 = c := by
  show (UInt8.ofNat c).toNat = c
  rw [UInt8.toNat_ofNat_of_lt' (by simpa using h)]
def frL (a b : ByteArray) (k : Nat) : List ByteArray := (List.range k).map fun c => a ++ one c ++ b
theorem frL_succ (a b : ByteArray) (k : Nat) : frL a b (k + 1) = frL a b k ++ [a ++ one k ++ b] := by
  unfold frL; rw [List.range_succ, List.map_append]; rfl
theorem frL_len (a b : ByteArray) (k : Nat) : (frL a b k).length = k := by unfold frL; simp
theorem frL_get (a b : ByteArray) (n k : Nat) (h : k < (frL a b n).length) : (frL a b n)[k] = a ++ one k ++ b := by simp [frL]
def FrRel (a b : ByteArray) (w : World) (ov iv : Value) (wr : World) : Prop := ∃ k : Nat, k ≤ 256 ∧ iv = .int .i64 k ∧ Hid (OV 9 w.heap.size (sv (frL a b k)) wr ov) ∧ Hid (Grew w wr)
/-- The relation of a loop that joins lists of places. -/
def JoRel (d : ByteArray) (T : Nat → ByteArray) (n : Nat) (w : World) (ov iv : Value) (wr : World) : Prop := ∃ (k : Nat) (al : List Int), k ≤ n ∧ iv = .int .i64 k ∧ Hid (al.Perm ((List.range k).flatMap fun c => ints (places d (T c)))) ∧ Hid (OL w.heap.size al wr ov) ∧ Hid (Grew w wr)
theorem join_succ {d : ByteArray} {T : Nat → ByteArray} {k : Nat} {al l : List Int} (h : al.Perm ((List.range k).flatMap fun c => ints (places d (T c)))) (hl : l.Perm (ints (places d (T k)))) : (al ++ l).Perm ((List.range (k + 1)).flatMap fun c => ints (places d (T c))) := by
  rw [List.range_succ, List.flatMap_append]
  refine h.append ?_
  simpa using hl
theorem join_len (d : ByteArray) (T : Nat → ByteArray) : ∀ k, ((List.range k).flatMap fun c => ints (places d (T c))).length ≤ k * d.size
  | 0 => by simp
  | k + 1 => by
    rw [List.range_succ, List.flatMap_append, List.length_append]
    have := join_len d T k
    have h2 : (List.flatMap (fun c => ints (places d (T c))) [k]).length ≤ d.size := by
      simp; rw [ints_length]; exact places_len _ _
    rw [Nat.succ_mul]; omega
def freeQ (d a b : ByteArray) (i : Nat) : Bool := decide (freeB d a b i)
theorem freeQ_yes {d a b : ByteArray} {i : Nat} (h1 : occ d a i) (h2 : i + a.size < d.size) (h3 : occ d b (i + a.size + 1)) : freeQ d a b i = true := decide_eq_true ⟨h1, h2, h3⟩
theorem freeQ_no {d a b : ByteArray} {i : Nat} (h : ¬ (occ d a i ∧ i + a.size < d.size ∧ occ d b (i + a.size + 1))) : freeQ d a b i = false := decide_eq_false h
theorem free_srt {d a b : ByteArray} {al : List Int} (h : al.Perm ((List.range 256).flatMap fun c => ints (places d (a ++ one c ++ b)))) : srt al = ints ((List.range d.size).filter (freeQ d a b)) := by
  refine srt_eq (List.Perm.trans ?_ h.symm) (ints_le (List.pairwise_lt_range.filter _))
  rw [← ints_flatMap]
  exact (ints_perm (free_law (m := one) fun c hc => ⟨one_size c, one_chr hc⟩)).symm
set_option maxHeartbeats 8000000 in
theorem fnFree_any (d a b : ByteArray) (w : World) (hd : d.size ≤ 1048576) (ha : a.size ≤ 1048576) (hb : b.size ≤ 1048576) (hmax : MaxIs w) :
    Calls Tryd.prog 15 #[.string d, .string a, .string b] w (GB true w) := by
  have HC3 := Lib.hid (fun u (hu : Grew w u) => awake_any u (hmax.grew hu))
  have HM := Lib.hid hmax
  clear hmax
  go_enter Tryd.func15, Tryd.ntmps15
  go_wp2_with fail
  go_loopw [7, 14, 8] (fun ov i _ wr => FrRel a b w ov i wr) (fun _ i _ _ => 256 - (intOf i).toNat)
  case atStart => exact ⟨0, by omega, rfl, OV.nil _ _ _, Kept.refl _ _⟩
  case round =>
    obtain ⟨k, hk, rfl, HO, HW⟩ := hrel
    by_cases hlt : k < 256
    · have y1 : (k : Int) < 256 := by omega
      have hcv : (convert 28 9 (.slice (some ⟨wr.heap.size, 0, none⟩) 1 1)).run Tryd.prog (wr.alloc (.cells #[.int .u8 (k : Int)] 5)) = .ok (.string (one k)) (wr.alloc (.cells #[.int .u8 (k : Int)] 5)) :=
        run_toString (f := fun _ => k) (m := 1) (.inr ⟨_, _, _, rfl, Nat.le_refl _, fun j hj => by
          obtain rfl : j = 0 := by omega
          exact (World.cell?_alloc_new wr _ _ 0)⟩)
      have hk1 : Grew w (wr.alloc (.cells #[.int .u8 (k : Int)] 5)) := HW.out.alloc _
      obtain ⟨v', w', happ, ho', hk'⟩ := append_str (a ++ one k ++ b) 9 41 hk1 (HO.out.alloc _) (by rw [frL_len]; omega)
      rw [World.size_alloc] at happ
      rw [← frL_succ] at ho'
      have HO' := Lib.hid ho'; have HK' := Lib.hid hk'
      have hm1 : (one k).size = 1 := rfl
      have x1 : ¬ 9223372036854775807 < a.size + 1 := by omega
      have x2 : ¬ 9223372036854775807 < a.size + 1 + b.size := by omega
      clear ho' hk' HO HW hk1
      generalize one k = m at *
      have z1 : IntKind.u8.wrap (k : Int) = (k : Int) := IntWalk.u8_in _ (by omega)
      go_wp2_with (at_builtin; refine wpList_append_run rfl _ _ _ _ rfl _ _ rfl rfl _ _ happ ?_)
      clear z1 hcv happ
      go_roundw
      case rel => exact ⟨k + 1, by omega, by go_num, HO', HK'⟩
      case measure => simp [intOf]; omega
    · obtain rfl : k = 256 := by omega
      have HTS := Lib.hid (HO.out.vl : TS (frL a b 256) wr u7)
      obtain ⟨a7, c7, e7⟩ := HTS.out.shape
      have hsm : ∀ t ∈ frL a b 256, t.size ≤ 1073741824 := fun t ht => by
        unfold frL at ht
        obtain ⟨c, _, rfl⟩ := List.mem_map.1 ht
        rw [ByteArray.size_append, ByteArray.size_append, one_size]; omega
      have HL := Lib.hid (lookups_any d (frL a b 256) u7 wr (by omega) hsm (by rw [frL_len]; omega) HTS.out (HM.out.grew HW.out))
      clear HO e7 hsm
      go_wp2_with fail
      refine HL.out.mono ?_
      rintro e w2 ⟨vs, v, rfl, hv, hvl, hll, k2⟩
      rw [frL_len] at hvl
      obtain ⟨a0, c0, rfl⟩ := hv.shape
      rw [hvl]
      rw [hvl] at hv
      have HV := Lib.hid hv; have HLL := Lib.hid hll; have HVL := Lib.hid hvl
      have HK2 := Lib.hid (HW.out.trans k2)
      clear HL hv hll k2 HW HTS hvl
      go_wp2_with fail
      go_loopw [9, 33, 12] (fun ov i _ wr => JoRel d (fun c => a ++ one c ++ b) 256 w2 ov i wr) (fun _ i _ _ => 256 - (intOf i).toNat)
      case atStart => exact ⟨0, [], by omega, rfl, by simp [Hid], OL.nil _ _, Kept.refl _ _⟩
      case round =>
        obtain ⟨k, al, hk, rfl, HP, HO, HW⟩ := hrel
        by_cases hlt : k < 256
        · obtain ⟨b0, o0, cc, e, _, hcell⟩ := HV.out.cells (by rw [HVL.out]; omega)
          rw [HVL.out] at e
          injection e with ea en ec
          subst ea ec
          obtain ⟨l, tl, pl⟩ := HLL.out k (by rw [HVL.out]; exact hlt) (by rw [frL_len]; exact hlt)
          rw [frL_get] at pl
          have hck := hcell k (by rw [HVL.out]; exact hlt)
          have htl := tl.1
          obtain ⟨x, hx⟩ : ∃ x, vs[k]'(by rw [HVL.out]; exact hlt) = x := ⟨_, rfl⟩
          rw [hx] at hck htl
          have c1 : wr.cell? ⟨b0, o0 + k, none⟩ = some x := (HW.out.cell _ _ (World.block_lt_of_cell? w2 _ hck) fun h => h).trans hck
          have y1 : (k : Int) < 256 := by omega
          have hal : al.length ≤ 256 * d.size := by
            rw [HP.out.length_eq]
            exact Nat.le_trans (join_len d _ k) (Nat.mul_le_mul_right _ (by omega))
          have hl : l.length ≤ d.size := by rw [lookup_len pl]; exact places_len _ _
          obtain ⟨v', w', happ, ho', hk'⟩ := append_ints 22 HW.out HO.out (htl.grew HW.out) (by omega)
          have HP' : Hid ((al ++ l).Perm ((List.range (k + 1)).flatMap fun c => ints (places d ((fun c => a ++ one c ++ b) c)))) := join_succ HP.out pl
          have HO' := Lib.hid ho'; have HK' := Lib.hid hk'
          clear ho' hk' HO HW HP tl pl hcell hck htl hal hl hx
          go_wp2_with (at_builtin; refine wpList_append_run rfl _ _ _ _ rfl _ _ rfl rfl _ _ happ ?_)
          go_roundw
          case rel => exact ⟨k + 1, al ++ l, by omega, by go_num, HP', HO', HK'⟩
          case measure => simp [intOf]; omega
        · obtain rfl : k = 256 := by omega
          rw [show ((256 : Nat) : Int) = 256 from rfl]
          have HS := Lib.hid (free_srt HP.out)
          have HI9 := Lib.hid HO.out.il
          have hal : al.length ≤ 268435456 := by
            rw [HP.out.length_eq]
            exact Nat.le_trans (join_len d _ 256) (by omega)
          have HKr := Lib.hid (HK2.out.trans HW.out)
          have HST := Lib.hid (fun t i u (ht : t.size ≤ 1048576) (hi : i ≤ 4294967296) => stands_any d t i u (by omega) (by omega) hi)
          clear HP HO HW HV HLL HVL HK2
          generalize wr = w3 at *
          go_wp2_with fail
          go_loopw [10, 43, 13] (fun ov i _ wr2 => RgRel (freeQ d a b) d.size w3 ov i wr2) (fun _ i _ _ => d.size - (intOf i).toNat)
          case atStart => exact ⟨0, by omega, rfl, OL.nil _ _, Kept.refl _ _⟩
          case round =>
            obtain ⟨k, hk, rfl, HO, HW⟩ := hrel
            by_cases hlt : k < d.size
            · have y1 : (k : Int) < (d.size : Int) := by omega
              have HC1 := Lib.hid (HST.out a k wr ha (by omega))
              have HC2 := Lib.hid (HST.out b (k + a.size + 1) wr hb (by omega))
              rw [show ((k + a.size + 1 : Nat) : Int) = (k : Int) + (a.size : Int) + 1 by omega] at HC2
              by_cases hf : freeQ d a b k = true
              · have hff : occ d a k ∧ k + a.size < d.size ∧ occ d b (k + a.size + 1) := of_decide_eq_true hf
                rw [decide_eq_true hff.1] at HC1
                rw [decide_eq_true hff.2.2] at HC2
                have y2 : (k : Int) + (a.size : Int) < (d.size : Int) := by omega
                obtain ⟨v', w', happ, ho', hk'⟩ := append_int (k : Int) 3 22 HW.out HO.out (by have := range_len (freeQ d a b) k; omega)
                rw [← range_yes hf] at ho'
                have HO' := Lib.hid ho'; have HK' := Lib.hid hk'
                clear ho' hk' HO HW hf hff HST HS HI9
                go_wp2_with (first | (go_at_call 41; (with_reducible refine HC1.out.mono ?_); rintro e w' ⟨rfl, rfl⟩) | (go_at_call 41; (with_reducible refine HC2.out.mono ?_); rintro e w' ⟨rfl, rfl⟩) | (at_builtin; refine wpList_append_run rfl _ _ _ _ rfl _ _ rfl rfl _ _ happ ?_))
                go_roundw
                case rel => exact ⟨k + 1, by omega, by go_num, HO', HK'⟩
                case measure => simp [intOf]; omega
              · have hf : freeQ d a b k = false := by simpa using hf
                have HO' : Hid (OL w3.heap.size (ints ((List.range (k + 1)).filter (freeQ d a b))) wr u10) := by rw [range_no hf]; exact HO.out
                have hff : ¬ (occ d a k ∧ k + a.size < d.size ∧ occ d b (k + a.size + 1)) := of_decide_eq_false hf
                clear HO hf HST HS HI9
                by_cases h1 : occ d a k
                · rw [decide_eq_true h1] at HC1
                  by_cases h2 : k + a.size < d.size
                  · have y2 : (k : Int) + (a.size : Int) < (d.size : Int) := by omega
                    rw [decide_eq_false (fun h3 => hff ⟨h1, h2, h3⟩)] at HC2
                    clear hff h1
                    go_wp2_with (first | (go_at_call 41; (with_reducible refine HC1.out.mono ?_); rintro e w' ⟨rfl, rfl⟩) | (go_at_call 41; (with_reducible refine HC2.out.mono ?_); rintro e w' ⟨rfl, rfl⟩))
                    go_roundw
                    case rel => exact ⟨k + 1, by omega, by go_num, HO', HW⟩
                    case measure => simp [intOf]; omega
                  · have y2 : ¬ (k : Int) + (a.size : Int) < (d.size : Int) := by omega
                    clear hff h1 HC2
                    go_wp2_with (first | (go_at_call 41; (with_reducible refine HC1.out.mono ?_); rintro e w' ⟨rfl, rfl⟩))
                    go_roundw
                    case rel => exact ⟨k + 1, by omega, by go_num, HO', HW⟩
                    case measure => simp [intOf]; omega
                · rw [decide_eq_false h1] at HC1
                  clear hff h1 HC2
                  go_wp2_with (first | (go_at_call 41; (with_reducible refine HC1.out.mono ?_); rintro e w' ⟨rfl, rfl⟩))
                  go_roundw
                  case rel => exact ⟨k + 1, by omega, by go_num, HO', HW⟩
                  case measure => simp [intOf]; omega
            · obtain rfl : k = d.size := by omega
              have HKw := Lib.hid (HKr.out.trans HW.out)
              have HCs := Lib.hid (same_il (HI9.out.grew HW.out) HO.out.il (by omega) (by have := range_len (freeQ d a b) d.size; omega))
              rw [decide_eq_true HS.out] at HCs
              clear HO HW HI9 HS HST HKr
              go_wp2_with fail
              refine HCs.out.mono ?_
              rintro e w5 ⟨rfl, k5⟩
              have HK5 := Lib.hid (HKw.out.trans k5)
              clear HCs k5 HKw
              go_wp2_with fail
              refine (HC3.out w5 HK5.out).mono ?_
              rintro e w6 ⟨rfl, k6⟩
              go_wp2
              go_ret
              exact ⟨rfl, HK5.out.trans k6⟩
end Go.Proofs.YtgmmenfnhppofaaDoor
