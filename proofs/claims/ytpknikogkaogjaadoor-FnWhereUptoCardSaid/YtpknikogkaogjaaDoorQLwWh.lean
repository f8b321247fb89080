/- FnWhere. -/
import Derived.Test.YtpknikogkaogjaaDoorQLwSh
set_option linter.unusedVariables false
namespace Go.Proofs.YtpknikogkaogjaaDoor
open Go.RowKit Go.Mem Sais
set_option maxRecDepth 100000

/-- The texts and all single bytes. -/
def whL (ts : List ByteArray) (k : Nat) : List ByteArray := ts ++ (List.range k).map one
theorem whL_succ (ts : List ByteArray) (k : Nat) : whL ts (k + 1) = whL ts k ++ [one k] := by
  unfold whL; rw [List.range_succ, List.map_append, List.append_assoc]; rfl
theorem whL_len (ts : List ByteArray) (k : Nat) : (whL ts k).length = ts.length + k := by unfold whL; simp
theorem whL_small {ts : List ByteArray} {k : Nat} (h : ∀ t ∈ ts, t.size ≤ 1073741824) : ∀ t ∈ whL ts k, t.size ≤ 1073741824 := fun t ht => by
  rcases List.mem_append.1 ht with ht | ht
  · exact h t ht
  · obtain ⟨c, _, rfl⟩ := List.mem_map.1 ht
    rw [one_size]; omega
/-- The longest text at a place, of the first k ones. -/
def whN (d : ByteArray) (l : List ByteArray) (i k : Nat) : Nat := mx (fun j => if occ d (l.getD j .empty) i then (l.getD j .empty).size else 0) k
theorem whN_le (d : ByteArray) (l : List ByteArray) (i k : Nat) : whN d l i k ≤ d.size := mx_le fun j _ => by
  split
  · rename_i h; have := h.1; omega
  · omega
theorem whN_pos (d : ByteArray) (ts : List ByteArray) (i : Nat) (hi : i < d.size) : 1 ≤ whN d (whL ts 256) i (ts.length + 256) := by
  unfold whN
  rw [le_mx (by omega)]
  have hc := chr_lt d i
  refine ⟨ts.length + chr d i, by omega, ?_⟩
  have e : (whL ts 256).getD (ts.length + chr d i) .empty = one (chr d i) := by
    unfold whL
    rw [List.getD_eq_getElem?_getD, List.getElem?_append_right (by omega)]
    simp [hc]
  rw [e, if_pos (occ_one hi (one_size _) (one_chr hc)), one_size]
  omega
def WlRel (ts : List ByteArray) (w : World) (ov iv : Value) (wr : World) : Prop := ∃ k : Nat, k ≤ 256 ∧ iv = .int .i64 k ∧ Hid (OV 9 w.heap.size (sv (whL ts k)) wr ov) ∧ Hid (Grew w wr)
/-- The rows of the first loop over what is found. -/
def WfRel (d : ByteArray) (l : List ByteArray) (lb : Nat) (w : World) (iv : Value) (wr : World) : Prop := ∃ k : Nat, k ≤ l.length ∧ iv = .int .i64 k ∧ Hid (Hold .i64 wr lb 0 d.size (fun i => (whN d l i k : Int))) ∧ Hid (Kept (In lb 0 d.size) w wr)
def WgRel (d : ByteArray) (l : List ByteArray) (q : List Int) (n k lb : Nat) (w : World) (iv : Value) (wr : World) : Prop := ∃ m : Nat, m ≤ q.length ∧ iv = .int .i64 m ∧
  Hid (Hold .i64 wr lb 0 d.size (fun i => if (i : Int) ∈ q.take m then max (whN d l i k : Int) (n : Int) else (whN d l i k : Int))) ∧ Hid (Kept (In lb 0 d.size) w wr)
def WrRel (n : Nat) (w : World) (iv : Value) (wr : World) : Prop := ∃ k : Nat, k ≤ n ∧ iv = .int .i64 k ∧ w = wr
set_option maxHeartbeats 8000000 in
theorem fnWhere_any (d : ByteArray) (ts : List ByteArray) (lv : Value) (w : World) (hd : d.size ≤ 1073741824) (ht : ∀ t ∈ ts, t.size ≤ 1073741824) (h : TS ts w lv) (hmax : MaxIs w) :
    Calls Tryd.prog 5 #[.string d, lv] w (GB true w) := by
  have HC3 := Lib.hid (fun u (hu : Grew w u) => awake_any u (hmax.grew hu))
  have HM := Lib.hid hmax
  have HI := Lib.hid h
  have HT := Lib.hid ht
  obtain ⟨a0, c0, rfl⟩ := h.shape
  clear hmax h ht
  by_cases h3 : (2000 : Int) < (d.size : Int)
  · clear HI
    go_enter Tryd.func5, Tryd.ntmps5
    go_wp2_with fail
    refine (HC3.out w (Kept.refl _ w)).mono ?_
    rintro e w2 ⟨rfl, k2⟩
    go_wp2
    go_ret
    exact ⟨rfl, k2⟩
  by_cases h4 : (200 : Int) < (ts.length : Int)
  · clear HI
    go_enter Tryd.func5, Tryd.ntmps5
    go_wp2_with fail
    refine (HC3.out w (Kept.refl _ w)).mono ?_
    rintro e w2 ⟨rfl, k2⟩
    go_wp2
    go_ret
    exact ⟨rfl, k2⟩
  have hd3 : d.size ≤ 2000 := by omega
  have hl3 : ts.length ≤ 200 := by omega
  obtain ⟨v1, w1, happ, ho1, hk1⟩ := append_vals (w0 := w) (l := []) 22 22 9 (.string .empty) 16 Tryd.underlying22 Tryd.infoStr rfl (fun u hu => by
    obtain ⟨t, _, rfl⟩ := List.mem_map.1 hu; rfl) (by omega) (Kept.refl _ w) (OV.nil _ _ _) HI.out (by rw [sv_length]; simp; omega)
  rw [List.nil_append] at ho1
  have HO1 := Lib.hid ho1; have HK1 := Lib.hid hk1
  clear ho1 hk1
  go_enter Tryd.func5, Tryd.ntmps5
  go_wp2_with (at_builtin; refine wpList_append_run rfl _ _ _ _ rfl _ _ rfl rfl _ _ happ ?_)
  clear happ
  go_loopw [1, 27, 5] (fun ov i _ wr => WlRel ts w ov i wr) (fun _ i _ _ => 256 - (intOf i).toNat)
  case atStart => exact ⟨0, by omega, rfl, by show OV _ _ _ _ _; unfold whL; simpa using HO1.out, HK1⟩
  case round =>
    clear HO1 HK1
    obtain ⟨k, hk, rfl, HO, HW⟩ := hrel
    by_cases hlt : k < 256
    · have y1 : (k : Int) < 256 := by omega
      have hcv : (convert 35 9 (.slice (some ⟨wr.heap.size, 0, none⟩) 1 1)).run Tryd.prog (wr.alloc (.cells #[.int .u8 (k : Int)] 5)) = .ok (.string (one k)) (wr.alloc (.cells #[.int .u8 (k : Int)] 5)) :=
        run_toString (f := fun _ => k) (m := 1) (.inr ⟨_, _, _, rfl, Nat.le_refl _, fun j hj => by
          obtain rfl : j = 0 := by omega
          exact (World.cell?_alloc_new wr _ _ 0)⟩)
      have hk1 : Grew w (wr.alloc (.cells #[.int .u8 (k : Int)] 5)) := HW.out.alloc _
      obtain ⟨v', w', happ, ho', hk'⟩ := append_str (one k) 9 22 hk1 (HO.out.alloc _) (by rw [whL_len]; omega)
      rw [World.size_alloc] at happ
      rw [← whL_succ] at ho'
      have HO' := Lib.hid ho'; have HK' := Lib.hid hk'
      clear ho' hk' HO HW hk1
      generalize one k = m at *
      have z1 : IntKind.u8.wrap (k : Int) = (k : Int) := IntWalk.u8_in _ (by omega)
      go_wp2_with (at_builtin; refine wpList_append_run rfl _ _ _ _ rfl _ _ rfl rfl _ _ happ ?_)
      clear z1 hcv happ
      go_roundw
      case rel => exact ⟨k + 1, by omega, by go_num, HO', HK'⟩
      case measure => simp [intOf]; omega
    · obtain rfl : k = 256 := by omega
      have HTS := Lib.hid (HO.out.vl : TS (whL ts 256) wr u1)
      have HSM := Lib.hid (whL_small (k := 256) HT.out)
      have hll : (whL ts 256).length = ts.length + 256 := whL_len ts 256
      have HPS := Lib.hid (fun i (hi : i < d.size) => whN_pos d ts i hi)
      rw [← hll] at HPS
      have hLe : (whL ts 256).length ≤ 456 := by omega
      clear hll
      obtain ⟨a1, c1, e1⟩ := TS.shape HTS.out
      subst e1
      clear HO
      generalize whL ts 256 = L at *
      clear HT HI h4
      have hmk := Tryd.makeInt wr d.size hd
      have HKA := Lib.hid ((Kept.refl _ wr : Grew wr wr).alloc (.cells (madeCells #[.int .i64 0] d.size) 3))
      have HHA := Lib.hid (Hold.made .i64 wr 3 d.size)
      have hlbs : wr.heap.size < (wr.alloc (.cells (madeCells #[.int .i64 0] d.size) 3)).heap.size := by rw [World.size_alloc]; omega
      have HLBS := Lib.hid hlbs
      clear hlbs
      have HL := Lib.hid (lookups_fresh d L _ (wr.alloc (.cells (madeCells #[.int .i64 0] d.size) 3)) (by omega) HSM.out (by omega) (HTS.out.grew HKA.out) (HM.out.grew (HW.out.trans HKA.out)))
      have hls : w.heap.size ≤ wr.heap.size := HW.out.size
      go_wp2_with fail
      have HKB := Lib.hid (HW.out.trans HKA.out)
      have HTA := Lib.hid (HTS.out.grew HKA.out)
      clear hmk HKA HTS HW
      generalize wr.alloc (.cells (madeCells #[.int .i64 0] d.size) 3) = wA at *
      generalize wr.heap.size = lb at *
      refine HL.out.mono ?_
      rintro e w2 ⟨vs, v, rfl, hv, hvl, hlls, k2, hfr⟩
      obtain ⟨a2, c2, rfl⟩ := hv.shape
      rw [hvl]
      rw [hvl] at hv
      have HV := Lib.hid hv; have HLL := Lib.hid hlls; have HVL := Lib.hid hvl; have HFR := Lib.hid hfr
      have HK2 := Lib.hid (HKB.out.trans k2)
      have HT2 := Lib.hid (HTA.out.grew k2)
      have HH2 := Lib.hid (HHA.out.kept k2 fun _ _ h => h)
      have hlb2 : lb < w2.heap.size := Nat.lt_of_lt_of_le HLBS.out k2.size
      clear HL hv hlls hvl hfr k2 HHA HTA HKB
      have HNI : Hid (∀ b o v, w2.cell? ⟨b, o, none⟩ = some v → (∀ z, v ≠ .int .i64 z) → ¬ In lb 0 d.size b o) := fun b o v hc hv hin => by
        obtain ⟨e1, e2, e3⟩ := hin
        subst e1
        have h1 := (HH2.out o (by omega)).1
        rw [Nat.zero_add, hc] at h1
        exact hv _ (Option.some.inj h1)
      go_wp2_with fail
      go_loopw [45, 7, 8, 10] (fun iv _ _ _ wr => WfRel d L lb w2 iv wr) (fun iv _ _ _ _ => L.length - (intOf iv).toNat)
      case atStart => exact ⟨0, by omega, rfl, HH2, Kept.refl _ _⟩
      case round =>
        clear HH2
        obtain ⟨k, hk, rfl, HH, HW⟩ := hrel
        by_cases hlt : k < L.length
        · obtain ⟨b0, o0, cc, e, _, hcell⟩ := HV.out.cells (by rw [HVL.out]; omega)
          rw [HVL.out] at e
          injection e with ea en ec
          subst ea ec
          obtain ⟨l, tl, pl⟩ := HLL.out k (by rw [HVL.out]; exact hlt) hlt
          have hck := hcell k (by rw [HVL.out]; exact hlt)
          have hfx := HFR.out _ (List.getElem_mem (show k < vs.length by rw [HVL.out]; exact hlt))
          obtain ⟨al, cl, el⟩ := tl.1.shape
          have htl := tl.1
          rw [el] at hck hfx htl
          have c1 : wr.cell? ⟨b0, o0 + k, none⟩ = some (.slice al l.length cl) := (HW.out.cell _ _ (World.block_lt_of_cell? w2 _ hck) (HNI.out _ _ _ hck fun z h => by cases h)).trans hck
          obtain ⟨b3, o3, c3, e3, _, hcs⟩ := TS.cells HT2.out (by omega)
          injection e3 with ea en ec
          subst ea ec
          have HCS := Lib.hid (fun u (hu : Kept (In lb 0 d.size) w2 u) => (hu.cell _ _ (World.block_lt_of_cell? w2 _ (hcs k hlt)) (HNI.out _ _ _ (hcs k hlt) fun z h => by cases h)).trans (hcs k hlt))
          have y1 : (k : Int) < (L.length : Int) := by omega
          have HX := Lib.hid (lookup_lt pl)
          have hll2 : l.length ≤ 1073741824 := by rw [lookup_len pl]; exact places_big hd
          have htk := HSM.out L[k] (List.getElem_mem hlt)
          have hLk : L.getD k .empty = L[k] := by simp [hlt]
          have HST : Hid (∀ j, j < d.size → (whN d L j (k + 1) : Int) = if (j : Int) ∈ l then max (whN d L j k : Int) (L[k].size : Int) else (whN d L j k : Int)) := fun j hj => by
            have h1 : whN d L j (k + 1) = max (whN d L j k) (if occ d (L.getD k .empty) j then (L.getD k .empty).size else 0) := rfl
            rw [h1, hLk, ← wh_eq]
            have h2 : ((j : Int) ∈ l) ↔ j ∈ places d L[k] := by
              rw [pl.mem_iff, mem_ints]; simp
            by_cases h3 : j ∈ places d L[k]
            · rw [if_pos h3, if_pos (h2.2 h3)]; omega
            · rw [if_neg h3, if_neg (fun h => h3 (h2.1 h))]; omega
          clear hcell hck tl pl el hLk hcs
          generalize L[k] = tk at *
          go_wp2_with fail
          go_loopw [52, 10] (fun iv _ wr => WgRel d L l tk.size k lb w2 iv wr) (fun iv _ _ => l.length - (intOf iv).toNat)
          case atStart => exact ⟨0, by omega, rfl, HH.out.congr fun j hj => by simp, HW⟩
          case round =>
            clear HH HW c1
            obtain ⟨m, hm, rfl, HH, HW⟩ := hrel
            by_cases hlt2 : m < l.length
            · obtain ⟨b4, o4, c4, e4, _, hcl⟩ := IL.cells htl (by omega)
              injection e4 with ea en ec
              subst ea ec
              have hb4 : wA.heap.size ≤ b4 := hfx _ _ _ rfl (by omega)
              have hne4 : b4 ≠ lb := by have := HLBS.out; omega
              have hcm := hcl m hlt2
              have c1 : wr.cell? ⟨b4, o4 + m, none⟩ = some (.int .i64 l[m]) := (HW.out.cell _ _ (World.block_lt_of_cell? w2 _ hcm) (fun h => hne4 h.1)).trans hcm
              have y2 : (m : Int) < (l.length : Int) := by omega
              obtain ⟨x0, x1⟩ := HX.out l[m] (List.getElem_mem hlt2)
              obtain ⟨x, hx⟩ : ∃ x : Nat, l[m] = (x : Int) := ⟨l[m].toNat, by omega⟩
              have cs := HCS.out wr HW.out
              obtain ⟨old, hol, cf, ff⟩ : ∃ old : Int, old = (if (x : Int) ∈ l.take m then max (whN d L x k : Int) (tk.size : Int) else (whN d L x k : Int)) ∧ wr.cell? ⟨lb, x, none⟩ = some (.int .i64 old) ∧ wr.frozen? ⟨lb, x, none⟩ = false :=
                ⟨_, rfl, by have := (HH.out x (by omega)).1; rwa [Nat.zero_add] at this, by have := (HH.out x (by omega)).2; rwa [Nat.zero_add] at this⟩
              have hbo : old ≤ 1073741824 ∧ 0 ≤ old := by
                have := whN_le d L x k
                rw [hol]; split <;> omega
              have HS : Hid (Hold .i64 (wr.setCell ⟨lb, x, none⟩ (.int .i64 (max old (tk.size : Int)))) lb 0 d.size (fun i => if (i : Int) ∈ l.take (m + 1) then max (whN d L i k : Int) (tk.size : Int) else (whN d L i k : Int))) := by
                have h := HH.out.set (i := x) (by omega) (max old (tk.size : Int))
                rw [Nat.zero_add] at h
                refine h.congr fun j hj => ?_
                simp only [mem_take_succ hlt2, hx]
                unfold upd
                by_cases e : j = x
                · subst e; rw [if_pos rfl, if_pos (.inr rfl), hol]
                  split <;> omega
                · have : ¬ (j : Int) = (x : Int) := by omega
                  simp [e, this]
              have HWS : Hid (∀ v, Kept (In lb 0 d.size) w2 (wr.setCell ⟨lb, x, none⟩ v)) := fun v => HW.out.set v ⟨rfl, by omega, by omega⟩
              rw [hx] at c1 x0 x1
              have x2 : (x : Int) < (d.size : Int) := x1
              have x3 : ¬ (x : Int) < 0 := by omega
              have x4 : ¬ (d.size : Int) ≤ (x : Int) := by omega
              obtain ⟨hb1, hb2⟩ := hbo
              clear hcl hcm HH HW hx HX HST HCS hol
              have em : (if old < (tk.size : Int) then (tk.size : Int) else old) = max old (tk.size : Int) := by split <;> omega
              generalize max old (tk.size : Int) = nw at *
              go_wp2_with fail
              go_region
              go_wp2
              go_roundw
              case rel => exact ⟨m + 1, by omega, by go_num, HS.out.drew, (HWS.out _).drew⟩
              case measure => simp [intOf]; omega
            · obtain rfl : m = l.length := by omega
              have HHE : Hid (Hold .i64 wr lb 0 d.size (fun i => (whN d L i (k + 1) : Int))) := HH.out.congr fun j hj => by
                rw [HST.out j hj, List.take_length]
              clear HH HX HST HCS
              go_wp2
              go_roundw
              case rel => exact ⟨k + 1, by omega, by go_num, HHE, HW⟩
              case measure => simp [intOf]; omega
        · obtain rfl : k = L.length := by omega
          have HKr : Hid (Grew w wr) := HK2.out.trans' HW.out fun x o hx hh => by have h1 := hh.1; omega
          have HCS : Hid (∀ k (hlt : k < L.length), ∃ b3 o3, a1 = some ⟨b3, o3, none⟩ ∧ wr.cell? ⟨b3, o3 + k, none⟩ = some (.string L[k])) := fun k hlt => by
            obtain ⟨b3, o3, c3, e3, _, hcs⟩ := TS.cells HT2.out (by omega)
            injection e3 with ea en ec
            exact ⟨b3, o3, ea, (HW.out.cell _ _ (World.block_lt_of_cell? w2 _ (hcs k hlt)) (HNI.out _ _ _ (hcs k hlt) fun z h => by cases h)).trans (hcs k hlt)⟩
          have HTD := Lib.hid (fun t i (ht : t.size ≤ 1073741824) (hi : i ≤ 4294967296) => stands_any d t i wr hd ht hi)
          have HA := Lib.hid (HC3.out wr HKr.out)
          clear HW HV HLL HVL HFR HT2 HNI HK2 HM HC3
          go_wp2_with fail
          go_loop [81, 11, 12, 13, 15] (fun iv _ _ _ _ => ∃ i : Nat, i ≤ d.size ∧ iv = .int .i64 i) (fun iv _ _ _ _ => d.size - (intOf iv).toNat)
          case atStart => exact ⟨0, by omega, rfl⟩
          case round =>
            obtain ⟨i, hi, rfl⟩ := hrel
            by_cases hlt : i < d.size
            · have c1 := (HH.out i hlt).1
              rw [Nat.zero_add] at c1
              have y1 : (i : Int) < (d.size : Int) := by omega
              have hn1 := HPS.out i hlt
              have hn2 := whN_le d L i L.length
              have HWK := Lib.hid (fun k => whN_le d L i k)
              have HN0 : Hid (whN d L i 0 = 0) := rfl
              go_wp2_with fail
              go_loop [88, 13, 15] (fun kv mv _ => ∃ k : Nat, k ≤ L.length ∧ kv = .int .i64 k ∧ mv = .int .i64 (whN d L i k : Nat)) (fun kv _ _ => L.length - (intOf kv).toNat)
              case atStart => exact ⟨0, by omega, rfl, by rw [HN0.out]; rfl⟩
              case round =>
                obtain ⟨k, hk, rfl, rfl⟩ := hrel
                by_cases hlt2 : k < L.length
                · obtain ⟨b3, o3, ea, cs⟩ := HCS.out k hlt2
                  subst ea
                  have y2 : (k : Int) < (L.length : Int) := by omega
                  have htk := HSM.out L[k] (List.getElem_mem hlt2)
                  have hLk : L.getD k .empty = L[k] := by simp [hlt2]
                  have hms : whN d L i (k + 1) = max (whN d L i k) (if occ d L[k] i then L[k].size else 0) := by rw [← hLk]; rfl
                  have HSTD := Lib.hid (HTD.out L[k] i htk (by omega))
                  have hwk := HWK.out k
                  clear hLk
                  generalize L[k] = tk at *
                  by_cases ho : occ d tk i
                  · rw [if_pos ho] at hms
                    rw [decide_eq_true ho] at HSTD
                    have HMS := Lib.hid hms
                    clear hms
                    generalize hM1 : whN d L i (k + 1) = m1 at *
                    generalize whN d L i k = m0 at *
                    have HM1 := Lib.hid hM1
                    clear hM1
                    have em : (if (m0 : Int) < (tk.size : Int) then (tk.size : Int) else (m0 : Int)) = (m1 : Int) := by rw [HMS.out]; split <;> omega
                    have em2 : (if m0 < tk.size then (tk.size : Int) else (m0 : Int)) = (m1 : Int) := by rw [HMS.out]; split <;> omega
                    go_wp2_with fail
                    refine HSTD.out.mono ?_
                    rintro e w' ⟨rfl, rfl⟩
                    go_wp2
                    go_round
                    case rel => exact ⟨k + 1, by omega, by go_num, by rw [HM1.out]⟩
                    case measure => simp [intOf]; omega
                  · rw [if_neg ho] at hms
                    rw [decide_eq_false ho] at HSTD
                    have HMS : Hid (whN d L i (k + 1) = whN d L i k) := by show whN d L i (k + 1) = whN d L i k; rw [hms]; omega
                    clear hms
                    go_wp2_with fail
                    refine HSTD.out.mono ?_
                    rintro e w' ⟨rfl, rfl⟩
                    go_wp2
                    go_round
                    case rel => exact ⟨k + 1, by omega, by go_num, by rw [HMS.out]⟩
                    case measure => simp [intOf]; omega
                · obtain rfl : k = L.length := by omega
                  generalize whN d L i L.length = nn at *
                  have y5 : ¬ (nn : Int) < 1 := by omega
                  clear HCS
                  go_wp2
                  go_round
                  case rel => exact ⟨i + 1, by omega, by go_num⟩
                  case measure => simp [intOf]; omega
            · obtain rfl : i = d.size := by omega
              clear HCS
              go_wp2_with fail
              refine HA.out.mono ?_
              rintro e w5 ⟨rfl, k5⟩
              go_wp2
              go_ret
              exact ⟨rfl, HKr.out.trans k5⟩
end Go.Proofs.YtpknikogkaogjaaDoor
