/- FnChanged. -/
import Derived.Test.YtgmmenfnhppofaaDoorQLwPe
set_option linter.unusedVariables false
namespace Go.Proofs.YtgmmenfnhppofaaDoor
open Go.RowKit Go.Mem Sais
set_option maxRecDepth 100000

theorem filter_take {α : Type} (l : List α) (f : α → Bool) (k : Nat) (h : k < l.length) : (l.take (k + 1)).filter f = (l.take k).filter f ++ (if f l[k] = true then [l[k]] else []) := by
  rw [List.take_succ_eq_append_getElem h, List.filter_append]
  congr 1
  simp [List.filter_cons]
theorem filter_take_yes {α : Type} {l : List α} {f : α → Bool} {k : Nat} {h : k < l.length} (hf : f l[k] = true) : (l.take (k + 1)).filter f = (l.take k).filter f ++ [l[k]] := by rw [filter_take l f k h, if_pos hf]
theorem filter_take_no {α : Type} {l : List α} {f : α → Bool} {k : Nat} {h : k < l.length} (hf : f l[k] = false) : (l.take (k + 1)).filter f = (l.take k).filter f := by rw [filter_take l f k h, if_neg (by rw [hf]; simp), List.append_nil]
theorem filter_take_len {α : Type} (l : List α) (f : α → Bool) (k : Nat) : ((l.take k).filter f).length ≤ l.length := Nat.le_trans (List.length_filter_le _ _) (by simp; omega)
/-- The relation of a loop that gathers: out holds what f leaves of the first k. -/
def GaRel (l : List Int) (f : Int → Bool) (w : World) (ov iv : Value) (wr : World) : Prop := ∃ k : Nat, k ≤ l.length ∧ iv = .int .i64 k ∧ Hid (OL w.heap.size ((l.take k).filter f) wr ov) ∧ Hid (Grew w wr)
set_option maxHeartbeats 4000000 in
theorem away_any (l : List Int) (v : Value) (p1 p2 a : Nat) (s : ByteArray) (w : World) (h : IL l w v) (hl : l.length ≤ 1073741824) (hs : s.size ≤ 1073741824) (ha : a ≤ 1073741824) (hx : ∀ x ∈ l, 0 ≤ x ∧ x ≤ 1073741824)
    (d1 : w.cell? ⟨p1, 0, none⟩ = some (.int .i64 (a : Int))) (d2 : w.cell? ⟨p2, 0, none⟩ = some (.string s)) :
    Calls Tryd.prog 30 #[v, .pointer (some ⟨p1, 0, none⟩), .pointer (some ⟨p2, 0, none⟩)] w (RiPost (l.filter (awayB a s.size)) w) := by
  have HR := Lib.hid (fun u v' (hu : Grew w u) (hi : IL (l.filter (awayB a s.size)) u v') => (rising_il (Nat.le_trans (List.length_filter_le _ _) hl) hi).mono fun e w' ⟨v2, h1, h2, h3⟩ => (⟨v2, h1, h2, hu.trans h3⟩ : RiPost (l.filter (awayB a s.size)) w e w'))
  have HI := Lib.hid h
  have HX := Lib.hid hx
  have HD1 := Lib.hid d1; have HD2 := Lib.hid d2
  have b1 := World.block_lt_of_cell? w _ d1
  have b2 := World.block_lt_of_cell? w _ d2
  obtain ⟨a0, c0, rfl⟩ := h.shape
  clear h hx d1 d2
  go_enter Tryd.func30, Tryd.ntmps30
  go_wp2_with fail
  go_loopw [5, 10, 7] (fun ov i _ wr => GaRel l (awayB a s.size) w ov i wr) (fun _ i _ _ => l.length - (intOf i).toNat)
  case atStart => exact ⟨0, by omega, rfl, OL.nil _ _, Kept.refl _ _⟩
  case round =>
    obtain ⟨k, hk, rfl, HO, HW⟩ := hrel
    have d1 : wr.cell? ⟨p1, 0, none⟩ = some (.int .i64 (a : Int)) := (HW.out.cell _ 0 b1 fun h => h).trans HD1.out
    have d2 : wr.cell? ⟨p2, 0, none⟩ = some (.string s) := (HW.out.cell _ 0 b2 fun h => h).trans HD2.out
    by_cases hlt : k < l.length
    · obtain ⟨b, o, c, e, hc, hcell⟩ := HI.out.cells (by omega)
      injection e with ea en ec
      subst ea ec
      have hck := hcell k hlt
      have c1 : wr.cell? ⟨b, o + k, none⟩ = some (.int .i64 l[k]) := (HW.out.cell _ _ (World.block_lt_of_cell? w _ hck) fun h => h).trans hck
      have y1 : (k : Int) < (l.length : Int) := by omega
      obtain ⟨x0, x1⟩ := HX.out l[k] (List.getElem_mem hlt)
      clear hcell hck HX HD1 HD2 HR
      by_cases hf : awayB a s.size l[k] = true
      · have HO2 := HO
        obtain ⟨v', w', happ, ho', hk'⟩ := append_int l[k] 3 22 HW.out HO.out (by have := filter_take_len l (awayB a s.size) k; omega)
        rw [← filter_take_yes hf] at ho'
        have HO' := Lib.hid ho'; have HK' := Lib.hid hk'
        have hff : (a : Int) < l[k] ∨ l[k] + (s.size : Int) ≤ (a : Int) := by simpa [awayB] using hf
        clear ho' hk' HO HW HO2 hf
        generalize l[k] = x at *
        by_cases h1 : (a : Int) < x
        · go_wp2_with (at_builtin; refine wpList_append_run rfl _ _ _ _ rfl _ _ rfl rfl _ _ happ ?_)
          go_roundw
          case rel => exact ⟨k + 1, by omega, by go_num, HO', HK'⟩
          case measure => simp [intOf]; omega
        · have h2 : x + (s.size : Int) ≤ (a : Int) := by omega
          go_wp2_with (at_builtin; refine wpList_append_run rfl _ _ _ _ rfl _ _ rfl rfl _ _ happ ?_)
          go_roundw
          case rel => exact ⟨k + 1, by omega, by go_num, HO', HK'⟩
          case measure => simp [intOf]; omega
      · have hf : awayB a s.size l[k] = false := by simpa using hf
        have HO' : Hid (OL w.heap.size ((l.take (k + 1)).filter (awayB a s.size)) wr u5) := by rw [filter_take_no hf]; exact HO.out
        have hff : ¬ (a : Int) < l[k] ∧ ¬ l[k] + (s.size : Int) ≤ (a : Int) := by simpa [awayB] using hf
        obtain ⟨h1, h2⟩ := hff
        clear HO hf
        generalize l[k] = x at *
        go_wp2
        go_roundw
        case rel => exact ⟨k + 1, by omega, by go_num, HO', HW⟩
        case measure => simp [intOf]; omega
    · obtain rfl : k = l.length := by omega
      have hO := HO.out
      rw [List.take_length] at hO
      have HC := Lib.hid (HR.out wr _ HW.out hO.il)
      clear HO HR HX HD1 HD2 hO
      go_wp2_with fail
      refine HC.out.mono ?_
      rintro e w3 hp
      have HP := Lib.hid hp
      obtain ⟨v2, rfl, _⟩ := hp
      go_wp2
      go_ret
      exact HP.out
/-- What FnChanged knows of its world. -/
structure Chg (w0 wr : World) (p a : Nat) (s : ByteArray) : Prop where
  d5 : wr.cell? ⟨p, 0, none⟩ = some (.string s)
  d6 : wr.cell? ⟨p + 1, 0, none⟩ = some (.int .i64 (a : Int))
  grew : Grew w0 wr
theorem Chg.of {w0 w1 wr : World} {p a : Nat} {s : ByteArray} (h : Chg w0 w1 p a s) (hk : Grew w1 wr) : Chg w0 wr p a s :=
  ⟨(hk.cell _ 0 (World.block_lt_of_cell? w1 _ h.d5) fun h => h).trans h.d5, (hk.cell _ 0 (World.block_lt_of_cell? w1 _ h.d6) fun h => h).trans h.d6, h.grew.trans hk⟩
theorem changed_eq {d d' s : ByteArray} {a : Nat} {u : World} {v1 v2 : Value} {l1 l2 : List Int} (hlaw : (ints (places d s)).filter (awayB a s.size) = (ints (places d' s)).filter (awayB a s.size)) (hd : d.size ≤ 1073741824) (hd' : d'.size ≤ 1073741824)
    (h1 : l1.Perm (ints (places d s))) (h2 : l2.Perm (ints (places d' s))) (hi1 : IL (srt (l1.filter (awayB a s.size))) u v1) (hi2 : IL (srt (l2.filter (awayB a s.size))) u v2) :
    Calls Tryd.prog 31 #[v1, v2] u (BPost true u) := by
  have e : decide (srt (l1.filter (awayB a s.size)) = srt (l2.filter (awayB a s.size))) = true := decide_eq_true (by
    rw [srt_of_perm (h1.filter _), srt_of_perm (h2.filter _), hlaw])
  have b1 : (srt (l1.filter (awayB a s.size))).length ≤ 1073741824 := by
    rw [srt_len]; exact Nat.le_trans (List.length_filter_le _ _) (by rw [lookup_len h1]; exact places_big hd)
  have b2 : (srt (l2.filter (awayB a s.size))).length ≤ 1073741824 := by
    rw [srt_len]; exact Nat.le_trans (List.length_filter_le _ _) (by rw [lookup_len h2]; exact places_big hd')
  have h := equal_int _ _ v1 v2 u hi1 hi2 b1 b2
  rw [e] at h
  exact h
theorem lookup_bd {s t : ByteArray} {l : List Int} (hs : s.size ≤ 1073741824) (h : l.Perm (ints (places s t))) : ∀ x ∈ l, 0 ≤ x ∧ x ≤ 1073741824 := fun x hx => by
  have := mem_ints.1 (h.mem_iff.1 hx)
  have h2 := (mem_places.1 this.2).2.1
  omega
set_option maxHeartbeats 4000000 in
theorem fnChanged_any (d s : ByteArray) (at' c : Int) (w : World) (hd : d.size ≤ 1073741823) (hs : s.size ≤ 1073741824) (lo : -9223372036854775808 ≤ at') (hi : at' < 9223372036854775808) (hc0 : 0 ≤ c) (hc1 : c < 256) (hmax : MaxIs w) :
    Calls Tryd.prog 4 #[.string d, .string s, .int .i64 at', .int .u8 c] w (GB true w) := by
  have HC3 := Lib.hid (fun u (hu : Grew w u) => awake_any u (hmax.grew hu))
  have HM := Lib.hid hmax
  have hg1 : Grew w ((w.alloc (.cells #[.string s] 9)).alloc (.cells #[.int .i64 at'] 3)) := ((Kept.refl _ w).alloc _).alloc _
  have q5 : ((w.alloc (.cells #[.string s] 9)).alloc (.cells #[.int .i64 at'] 3)).cell? ⟨w.heap.size, 0, none⟩ = some (.string s) := by
    rw [World.cell?_alloc_lt _ _ _ (by simp), World.cell?_alloc_new]; rfl
  have q6 : ((w.alloc (.cells #[.string s] 9)).alloc (.cells #[.int .i64 at'] 3)).cell? ⟨w.heap.size + 1, 0, none⟩ = some (.int .i64 at') := by
    rw [show w.heap.size + 1 = (w.alloc (.cells #[.string s] 9)).heap.size by simp, World.cell?_alloc_new]; rfl
  clear hmax
  by_cases h1 : at' < 0
  · clear q5 q6
    go_enter Tryd.func4, Tryd.ntmps4
    go_wp2_with fail
    refine (HC3.out _ hg1).mono ?_
    rintro e w2 ⟨rfl, k2⟩
    go_wp2
    go_ret
    exact ⟨rfl, hg1.trans k2⟩
  · by_cases h2 : (d.size : Int) ≤ at'
    · clear q5 q6
      go_enter Tryd.func4, Tryd.ntmps4
      go_wp2_with fail
      refine (HC3.out _ hg1).mono ?_
      rintro e w2 ⟨rfl, k2⟩
      go_wp2
      go_ret
      exact ⟨rfl, hg1.trans k2⟩
    · obtain ⟨a, rfl⟩ : ∃ n : Nat, at' = (n : Int) := ⟨at'.toNat, by omega⟩
      obtain ⟨cc, rfl⟩ : ∃ n : Nat, c = (n : Int) := ⟨c.toNat, by omega⟩
      have HG := Lib.hid (⟨q5, q6, hg1⟩ : Chg w _ w.heap.size a s)
      clear q5 q6 hg1
      go_enter Tryd.func4, Tryd.ntmps4
      go_wp2_with fail
      generalize (w.alloc (.cells #[.string s] 9)).alloc (.cells #[.int .i64 (a : Int)] 3) = w1 at *
      generalize w.heap.size = p at *
      have d6 := HG.out.d6
      have y1 : (a : Int) ≤ (d.size : Int) := by omega
      have y2 : (a : Int) + 1 ≤ (d.size : Int) := by omega
      have y3 : (0 : Int) ≤ (a : Int) + 1 := by omega
      have y4 : ((a : Int) + 1).toNat = a + 1 := by omega
      have z1 : IntKind.i64.wrap ((a : Int) + 1) = (a : Int) + 1 := IntWalk.i64_in _ (by omega)
      obtain ⟨m, hm⟩ : ∃ m : ByteArray, ⟨(bts (fun _ => cc) 1).toArray⟩ = m := ⟨_, rfl⟩
      have hcv : (convert 28 9 (.slice (some ⟨w1.heap.size, 0, none⟩) 1 1)).run Tryd.prog (w1.alloc (.cells #[.int .u8 (cc : Int)] 5)).drew = .ok (.string m) (w1.alloc (.cells #[.int .u8 (cc : Int)] 5)).drew := by
        rw [← hm]
        exact run_toString (f := fun _ => cc) (m := 1) (.inr ⟨_, _, _, rfl, Nat.le_refl _, fun j hj => by
          obtain rfl : j = 0 := by omega
          exact (World.cell?_alloc_new w1 _ _ 0)⟩)
      have hm1 : m.size = 1 := by rw [← hm]; rfl
      have x1 : ¬ 9223372036854775807 < min a d.size + 1 := by omega
      have x2 : ¬ 9223372036854775807 < min a d.size + 1 + (d.size - (a + 1)) := by omega
      have d6' : (w1.alloc (.cells #[.int .u8 (cc : Int)] 5)).cell? ⟨p + 1, 0, none⟩ = some (.int .i64 (a : Int)) := ((((Kept.refl _ w1 : Grew w1 w1).alloc (.cells #[.int .u8 (cc : Int)] 5))).cell _ 0 (World.block_lt_of_cell? w1 _ d6) fun h => h).trans d6
      clear hm
      go_region
      have HG2 := Lib.hid (HG.out.of ((Kept.refl _ w1 : Grew w1 w1).alloc (.cells #[.int .u8 (cc : Int)] 5)).drew)
      have HLAW := Lib.hid (changed_law d s m a (by omega) hm1)
      have hz : (d.extract 0 a ++ m ++ d.extract (a + 1) d.size).size ≤ 1073741824 := by
        rw [ByteArray.size_append, ByteArray.size_append, size_extract' (by omega), size_extract' (Nat.le_refl _)]; omega
      clear z1 x1 x2 d6 d6' hcv HG
      generalize hd' : d.extract 0 a ++ m ++ d.extract (a + 1) d.size = d' at *
      clear hd'
      generalize (w1.alloc (.cells #[.int .u8 (cc : Int)] 5)).drew = w2 at *
      have HL1 := Lib.hid (fun u (hu : Chg w u p a s) => lookup_any d s u (by omega) hs (HM.out.grew hu.grew))
      have HL2 := Lib.hid (fun u (hu : Chg w u p a s) => lookup_any d' s u hz hs (HM.out.grew hu.grew))
      go_wp2_with fail
      go_upto_region 5 with fail
      have HAW := Lib.hid (fun u l v (hu : Chg w u p a s) (hi : IL l u v) (hl : l.length ≤ 1073741824) (hb : ∀ x ∈ l, 0 ≤ x ∧ x ≤ 1073741824) => away_any l v (p + 1) p a s u hi hl hs (by omega) hb hu.d6 hu.d5)
      have hS2 := HG2.out
      have d5 := hS2.d5
      clear HG2
      have hS2' := Lib.hid hS2
      clear hS2
      go_region_held3 (fun w' => w'.cell? ⟨p, 0, none⟩ = some (.string s))
        (first | (exact hS8.out.d5) | (exact hS7.out.d5) | (exact hS6.out.d5) | (exact hS5.out.d5) | (exact hS4.out.d5) | (exact hS3.out.d5) | go_keep)
        (first
          | (go_at_call 27; (with_reducible refine (HL1.out _ (hS2'.out.of (Kept.refl _ w2).drew)).mono ?_); rintro e w3 ⟨l3, v3, rfl, hi3, hp3, hk3⟩; have hS3 := Lib.hid ((hS2'.out.of (Kept.refl _ w2).drew).of hk3); have HI3 := Lib.hid hi3; have HP3 := Lib.hid hp3; clear hi3 hp3 hk3)
          | (go_at_call 30; (with_reducible refine (HAW.out _ _ _ hS3.out HI3.out (by rw [lookup_len HP3.out]; exact places_big (by omega)) (lookup_bd (by omega) HP3.out)).mono ?_); rintro e w4 ⟨v4, rfl, hi4, hk4⟩; have hS4 := Lib.hid (hS3.out.of hk4); have HI4 := Lib.hid hi4; clear hi4 hk4)
          | (go_at_call 27; (with_reducible refine (HL2.out _ hS4.out).mono ?_); rintro e w5 ⟨l5, v5, rfl, hi5, hp5, hk5⟩; have hS5 := Lib.hid (hS4.out.of hk5); have HI5 := Lib.hid hi5; have HP5 := Lib.hid hp5; have HI4' := Lib.hid (HI4.out.grew hk5); clear hi5 hp5 hk5)
          | (go_at_call 30; (with_reducible refine (HAW.out _ _ _ hS5.out HI5.out (by rw [lookup_len HP5.out]; exact places_big hz) (lookup_bd hz HP5.out)).mono ?_); rintro e w6 ⟨v6, rfl, hi6, hk6⟩; have hS6 := Lib.hid (hS5.out.of hk6); have HI6 := Lib.hid hi6; have HI4'' := Lib.hid (HI4'.out.grew hk6); clear hi6 hk6)
          | (go_at_call 31; (with_reducible refine (changed_eq HLAW.out (by omega) hz HP3.out HP5.out HI4''.out HI6.out).mono ?_); rintro e w7 ⟨rfl, q7, rfl⟩; have hS7 := Lib.hid (hS6.out.of ((Kept.refl _ w6 : Grew w6 w6).drewN q7)))
          | (go_at_call 29; (with_reducible refine (HC3.out _ hS7.out.grew).mono ?_); rintro e w8 ⟨rfl, hk8⟩; have hS8 := Lib.hid (hS7.out.of hk8); clear hk8))
      go_wp2
      go_ret
      exact ⟨rfl, hS8.out.grew⟩
end Go.Proofs.YtgmmenfnhppofaaDoor
