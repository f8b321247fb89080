/- FnShared. -/
import Derived.Test.YtpknikogkaogjaaDoorQLwLo
set_option linter.unusedVariables false
namespace Go.Proofs.YtpknikogkaogjaaDoor
open Go.RowKit Go.Mem Sais
set_option maxRecDepth 100000

theorem shK_le (x y : ByteArray) (i k : Nat) : mx (shK x y i) k ≤ k := mx_le fun j hj => by unfold shK; split <;> omega
def SoRel (a b : ByteArray) (w : World) (iv : Value) (wr : World) : Prop := (iv = .int .i64 0 ∨ iv = .int .i64 1 ∨ iv = .int .i64 2) ∧ Hid (Grew w wr)
def SmRel (x y : ByteArray) (w : World) (mv iv : Value) (wr : World) : Prop := ∃ i : Nat, i ≤ y.size ∧ iv = .int .i64 i ∧ mv = .int .i64 (mx (fun i => mx (shK x y i) (y.size - i)) i : Nat) ∧ Hid (Grew w wr)
set_option maxHeartbeats 8000000 in
theorem fnShared_any (a b : ByteArray) (w : World) (ha : a.size ≤ 1073741824) (hb : b.size ≤ 1073741824) (hmax : MaxIs w) :
    Calls Tryd.prog 4 #[.string a, .string b] w (GB true w) := by
  have HC3 := Lib.hid (fun u (hu : Grew w u) => awake_any u (hmax.grew hu))
  have HM := Lib.hid hmax
  clear hmax
  by_cases h3 : (60 : Int) < (a.size : Int)
  · go_enter Tryd.func4, Tryd.ntmps4
    go_wp2_with fail
    refine (HC3.out w (Kept.refl _ w)).mono ?_
    rintro e w2 ⟨rfl, k2⟩
    go_wp2
    go_ret
    exact ⟨rfl, k2⟩
  by_cases h4 : (60 : Int) < (b.size : Int)
  · go_enter Tryd.func4, Tryd.ntmps4
    go_wp2_with fail
    refine (HC3.out w (Kept.refl _ w)).mono ?_
    rintro e w2 ⟨rfl, k2⟩
    go_wp2
    go_ret
    exact ⟨rfl, k2⟩
  have ha3 : a.size ≤ 60 := by omega
  have hb3 : b.size ≤ 60 := by omega
  have HS := Lib.hid (fun u => shared_any a b u ha hb)
  have HL1 := Lib.hid (sh_law a b)
  have HL2 := Lib.hid ((sh_law b a).trans (shN_comm b a))
  go_enter Tryd.func4, Tryd.ntmps4
  go_wp2_with fail
  have HG1 := Lib.hid ((Kept.refl _ w : Grew w w).alloc (.cells #[.string a, .string b, .string b, .string a] 30))
  have HV := Lib.hid (VL.lit w [.string a, .string b, .string b, .string a] 30)
  have hc : ∀ j (h : j < 4), (w.alloc (.cells #[.string a, .string b, .string b, .string a] 30)).cell? ⟨w.heap.size, j, none⟩ = some ([Value.string a, .string b, .string b, .string a][j]) := fun j h => by
    rw [World.cell?_alloc_new]; simp [h]
  have HCE := Lib.hid hc
  have hbl : w.heap.size < (w.alloc (.cells #[.string a, .string b, .string b, .string a] 30)).heap.size := by rw [World.size_alloc]; omega
  clear hc HV
  generalize w.alloc (.cells #[.string a, .string b, .string b, .string a] 30) = w1 at *
  generalize w.heap.size = bk at *
  go_loopw [28, 6, 7, 8, 9, 10] (fun iv _ _ _ _ _ wr => SoRel a b w1 iv wr) (fun iv _ _ _ _ _ _ => 2 - (intOf iv).toNat)
  case atStart => exact ⟨.inl rfl, Kept.refl _ _⟩
  case round =>
    obtain ⟨hiv, HW⟩ := hrel
    have HCW := Lib.hid (fun j (h : j < 4) => (HW.out.cell bk j hbl fun h => h).trans (HCE.out j h))
    have q0 := HCW.out 0 (by omega); have q1 := HCW.out 1 (by omega); have q2 := HCW.out 2 (by omega); have q3 := HCW.out 3 (by omega)
    simp only [List.getElem_cons_zero, List.getElem_cons_succ] at q0 q1 q2 q3
    rcases hiv with rfl | rfl | rfl
    · go_wp2_with fail
      have HXA : Hid (∀ u, Grew (wr.alloc (.cells #[.string a, .string b] 30)) u → u.cell? ⟨wr.heap.size, 0, none⟩ = some (.string a) ∧ u.cell? ⟨wr.heap.size, 1, none⟩ = some (.string b)) := fun u hu => by
        have hlt : wr.heap.size < (wr.alloc (.cells #[.string a, .string b] 30)).heap.size := by rw [World.size_alloc]; omega
        refine ⟨(hu.cell _ 0 hlt fun h => h).trans ?_, (hu.cell _ 1 hlt fun h => h).trans ?_⟩ <;> rw [World.cell?_alloc_new] <;> rfl
      have HW2 := Lib.hid (HW.out.alloc (.cells #[.string a, .string b] 30))
      have HOB := Lib.hid (fun i => (mx_le (fun j _ => Nat.le_trans (shK_le a b j _) (Nat.sub_le _ _)) : mx (fun i => mx (shK a b i) (b.size - i)) i ≤ b.size))
      clear q0 q1 q2 q3 HCW HW
      generalize wr.alloc (.cells #[.string a, .string b] 30) = w2 at *
      generalize wr.heap.size = xb at *
      clear wr
      go_loopw [7, 35, 8, 9, 10] (fun mv iv _ _ _ wr => SmRel a b w2 mv iv wr) (fun _ iv _ _ _ _ => b.size - (intOf iv).toNat)
      case atStart => exact ⟨0, by omega, rfl, rfl, Kept.refl _ _⟩
      case round =>
        obtain ⟨i, hi, rfl, rfl, HW⟩ := hrel
        by_cases hlt : i < b.size
        · have y1 : (i : Int) < (b.size : Int) := by omega
          obtain ⟨cx, cy⟩ := HXA.out wr HW.out
          have HP := Lib.hid (parts_any b i wr.drew hb (by omega))
          have HLK := Lib.hid (fun u v1 (hu : Grew w2 u) (ht : TS (partsL b i (b.size - i)) u v1) => lookups_any a (partsL b i (b.size - i)) v1 u ha (partsL_small hb) (by rw [partsL_len]; omega) ht (HM.out.grew (HG1.out.trans (HW2.out.trans hu))))
          have HXB := Lib.hid (fun u (hu : Grew wr u) => (HXA.out u (HW.out.trans hu)).1)
          have HXC := Lib.hid (fun u (hu : Grew wr u) => (HXA.out u (HW.out.trans hu)).2)
          have hMs : Hid (mx (fun i => mx (shK a b i) (b.size - i)) (i + 1) = max (mx (fun i => mx (shK a b i) (b.size - i)) i) (mx (shK a b i) (b.size - i))) := rfl
          have hob := HOB.out i
          generalize hM1 : mx (fun i => mx (shK a b i) (b.size - i)) (i + 1) = M1 at *
          generalize mx (fun i => mx (shK a b i) (b.size - i)) i = M at *
          have HM1 := Lib.hid hM1
          clear hM1 HOB HXA
          go_wp2_with fail
          go_region_held3 (fun w' => w'.cell? ⟨xb, 0, none⟩ = some (.string a) ∧ w'.cell? ⟨xb, 1, none⟩ = some (.string b))
            (first | (exact ⟨HXB.out _ HG5.out, HXC.out _ HG5.out⟩) | (exact ⟨HXB.out _ HG4.out, HXC.out _ HG4.out⟩) | go_keep)
            (first
              | (go_at_call 15; (with_reducible refine HP.out.mono ?_); rintro e w4 ⟨v4, rfl, i4, k4⟩; have HG4 := Lib.hid ((Kept.refl _ wr : Grew wr wr).drew.trans k4); have HI4 := Lib.hid i4; clear i4 k4)
              | (go_at_call 11; (with_reducible refine (HLK.out _ _ (HW.out.trans HG4.out) HI4.out).mono ?_); rintro e w5 ⟨vs, v, rfl, hv, hvl, hll, k5⟩; obtain ⟨a0, c0, rfl⟩ := hv.shape; have HG5 := Lib.hid (HG4.out.trans k5); have HV := Lib.hid hv; have HLL := Lib.hid hll; have HVL := Lib.hid hvl; clear k5 hv hll hvl))
          rw [partsL_len] at HVL
          rw [HVL.out]
          rw [HVL.out] at HV
          have HK5 := Lib.hid (HW.out.trans HG5.out)
          have e0 : Hid (M = max M (mx (shK a b i) 0)) := by show M = max M 0; omega
          clear HP HLK HXB HXC cx cy HG4 HG5 HI4 HW
          go_wp2_with fail
          go_loop [7, 46, 9, 10] (fun mv kv _ _ => ∃ k : Nat, k ≤ b.size - i ∧ kv = .int .i64 k ∧ mv = .int .i64 (max M (mx (shK a b i) k) : Nat)) (fun _ kv _ _ => b.size - i - (intOf kv).toNat)
          case atStart => exact ⟨0, by omega, rfl, by rw [← e0.out]⟩
          case round =>
            obtain ⟨k, hk, rfl, rfl⟩ := hrel
            by_cases hlt2 : k < b.size - i
            · obtain ⟨bb, o, c, e, _, hcell⟩ := HV.out.cells (by rw [HVL.out]; omega)
              rw [HVL.out] at e
              injection e with ea en ec
              subst ea ec
              obtain ⟨l, tl, pl⟩ := HLL.out k (by rw [HVL.out]; exact hlt2) (by rw [partsL_len]; exact hlt2)
              rw [partsL_get] at pl
              obtain ⟨al, cl, el⟩ := tl.1.shape
              have hck := hcell k (by rw [HVL.out]; exact hlt2)
              rw [el] at hck
              have c1 : w5.cell? ⟨bb, o + k, none⟩ = some (.slice al l.length cl) := hck
              have y2 : (k : Int) < ((b.size - i : Nat) : Int) := by omega
              have hms : mx (shK a b i) (k + 1) = max (mx (shK a b i) k) (shK a b i k) := rfl
              have hrk : shK a b i k = if 0 < l.length then k + 1 else 0 := by rw [lookup_len pl]; rfl
              have hlb : l.length ≤ 60 := by rw [lookup_len pl]; exact Nat.le_trans (places_len _ _) ha3
              have hmb := shK_le a b i k
              rw [hrk] at hms
              clear hcell hck tl pl el hrk e0
              generalize l.length = q at *
              by_cases f1 : 0 < q
              · rw [if_pos f1] at hms
                have y3 : (0 : Int) < (q : Int) := by omega
                have hmm : max M (mx (shK a b i) (k + 1)) = max (max M (mx (shK a b i) k)) (k + 1) := by rw [hms]; omega
                have HMM := Lib.hid hmm
                have hb0 : max M (mx (shK a b i) k) ≤ 60 := by omega
                clear hms hmm hmb
                generalize hm1 : max M (mx (shK a b i) (k + 1)) = m1 at *
                generalize max M (mx (shK a b i) k) = m0 at *
                have HM1' := Lib.hid hm1
                clear hm1
                have em : (if m0 < k + 1 then ((k : Int) + 1) else (m0 : Int)) = (m1 : Int) := by rw [HMM.out]; split <;> omega
                have em2 : (if (m0 : Int) < (k : Int) + 1 then ((k : Int) + 1) else (m0 : Int)) = (m1 : Int) := by rw [HMM.out]; split <;> omega
                go_wp2
                go_round
                case rel => exact ⟨k + 1, by omega, by go_num, by rw [HM1'.out]⟩
                case measure => simp [intOf]; omega
              · rw [if_neg f1] at hms
                obtain rfl : q = 0 := by omega
                have hmm : max M (mx (shK a b i) (k + 1)) = max M (mx (shK a b i) k) := by rw [hms]; omega
                have HMM := Lib.hid hmm
                clear hms hmm
                go_wp2
                go_round
                case rel => exact ⟨k + 1, by omega, by go_num, by rw [HMM.out]⟩
                case measure => simp [intOf]; omega
            · obtain rfl : k = b.size - i := by omega
              have hf : Hid (max M (mx (shK a b i) (b.size - i)) = M1) := hMs.out.symm
              rw [hf.out]
              clear HV HLL HVL e0
              go_wp2
              go_roundw
              case rel => exact ⟨i + 1, by omega, by go_num, by rw [HM1.out], HK5⟩
              case measure => simp [intOf]; omega
        · obtain rfl : i = b.size := by omega
          rw [HL1.out]
          have HR' := Lib.hid (HS.out wr)
          clear HL1 HL2 HOB HXA
          generalize shN a b = rn at *
          go_wp2_with fail
          refine HR'.out.mono ?_
          rintro e w4 ⟨rfl, hq⟩
          have HK4 := Lib.hid (Grew.drewEx (HW2.out.trans HW.out) hq)
          clear HR' hq
          go_wp2
          go_roundw
          case rel => exact ⟨.inr (.inl rfl), HK4⟩
          case measure => decide
    · go_wp2_with fail
      have HXA : Hid (∀ u, Grew (wr.alloc (.cells #[.string b, .string a] 30)) u → u.cell? ⟨wr.heap.size, 0, none⟩ = some (.string b) ∧ u.cell? ⟨wr.heap.size, 1, none⟩ = some (.string a)) := fun u hu => by
        have hlt : wr.heap.size < (wr.alloc (.cells #[.string b, .string a] 30)).heap.size := by rw [World.size_alloc]; omega
        refine ⟨(hu.cell _ 0 hlt fun h => h).trans ?_, (hu.cell _ 1 hlt fun h => h).trans ?_⟩ <;> rw [World.cell?_alloc_new] <;> rfl
      have HW2 := Lib.hid (HW.out.alloc (.cells #[.string b, .string a] 30))
      have HOB := Lib.hid (fun i => (mx_le (fun j _ => Nat.le_trans (shK_le b a j _) (Nat.sub_le _ _)) : mx (fun i => mx (shK b a i) (a.size - i)) i ≤ a.size))
      clear q0 q1 q2 q3 HCW HW
      generalize wr.alloc (.cells #[.string b, .string a] 30) = w2 at *
      generalize wr.heap.size = xb at *
      clear wr
      go_loopw [7, 35, 8, 9, 10] (fun mv iv _ _ _ wr => SmRel b a w2 mv iv wr) (fun _ iv _ _ _ _ => a.size - (intOf iv).toNat)
      case atStart => exact ⟨0, by omega, rfl, rfl, Kept.refl _ _⟩
      case round =>
        obtain ⟨i, hi, rfl, rfl, HW⟩ := hrel
        by_cases hlt : i < a.size
        · have y1 : (i : Int) < (a.size : Int) := by omega
          obtain ⟨cx, cy⟩ := HXA.out wr HW.out
          have HP := Lib.hid (parts_any a i wr.drew ha (by omega))
          have HLK := Lib.hid (fun u v1 (hu : Grew w2 u) (ht : TS (partsL a i (a.size - i)) u v1) => lookups_any b (partsL a i (a.size - i)) v1 u hb (partsL_small ha) (by rw [partsL_len]; omega) ht (HM.out.grew (HG1.out.trans (HW2.out.trans hu))))
          have HXB := Lib.hid (fun u (hu : Grew wr u) => (HXA.out u (HW.out.trans hu)).1)
          have HXC := Lib.hid (fun u (hu : Grew wr u) => (HXA.out u (HW.out.trans hu)).2)
          have hMs : Hid (mx (fun i => mx (shK b a i) (a.size - i)) (i + 1) = max (mx (fun i => mx (shK b a i) (a.size - i)) i) (mx (shK b a i) (a.size - i))) := rfl
          have hob := HOB.out i
          generalize hM1 : mx (fun i => mx (shK b a i) (a.size - i)) (i + 1) = M1 at *
          generalize mx (fun i => mx (shK b a i) (a.size - i)) i = M at *
          have HM1 := Lib.hid hM1
          clear hM1 HOB HXA
          go_wp2_with fail
          go_region_held3 (fun w' => w'.cell? ⟨xb, 0, none⟩ = some (.string b) ∧ w'.cell? ⟨xb, 1, none⟩ = some (.string a))
            (first | (exact ⟨HXB.out _ HG5.out, HXC.out _ HG5.out⟩) | (exact ⟨HXB.out _ HG4.out, HXC.out _ HG4.out⟩) | go_keep)
            (first
              | (go_at_call 15; (with_reducible refine HP.out.mono ?_); rintro e w4 ⟨v4, rfl, i4, k4⟩; have HG4 := Lib.hid ((Kept.refl _ wr : Grew wr wr).drew.trans k4); have HI4 := Lib.hid i4; clear i4 k4)
              | (go_at_call 11; (with_reducible refine (HLK.out _ _ (HW.out.trans HG4.out) HI4.out).mono ?_); rintro e w5 ⟨vs, v, rfl, hv, hvl, hll, k5⟩; obtain ⟨a0, c0, rfl⟩ := hv.shape; have HG5 := Lib.hid (HG4.out.trans k5); have HV := Lib.hid hv; have HLL := Lib.hid hll; have HVL := Lib.hid hvl; clear k5 hv hll hvl))
          rw [partsL_len] at HVL
          rw [HVL.out]
          rw [HVL.out] at HV
          have HK5 := Lib.hid (HW.out.trans HG5.out)
          have e0 : Hid (M = max M (mx (shK b a i) 0)) := by show M = max M 0; omega
          clear HP HLK HXB HXC cx cy HG4 HG5 HI4 HW
          go_wp2_with fail
          go_loop [7, 46, 9, 10] (fun mv kv _ _ => ∃ k : Nat, k ≤ a.size - i ∧ kv = .int .i64 k ∧ mv = .int .i64 (max M (mx (shK b a i) k) : Nat)) (fun _ kv _ _ => a.size - i - (intOf kv).toNat)
          case atStart => exact ⟨0, by omega, rfl, by rw [← e0.out]⟩
          case round =>
            obtain ⟨k, hk, rfl, rfl⟩ := hrel
            by_cases hlt2 : k < a.size - i
            · obtain ⟨bb, o, c, e, _, hcell⟩ := HV.out.cells (by rw [HVL.out]; omega)
              rw [HVL.out] at e
              injection e with ea en ec
              subst ea ec
              obtain ⟨l, tl, pl⟩ := HLL.out k (by rw [HVL.out]; exact hlt2) (by rw [partsL_len]; exact hlt2)
              rw [partsL_get] at pl
              obtain ⟨al, cl, el⟩ := tl.1.shape
              have hck := hcell k (by rw [HVL.out]; exact hlt2)
              rw [el] at hck
              have c1 : w5.cell? ⟨bb, o + k, none⟩ = some (.slice al l.length cl) := hck
              have y2 : (k : Int) < ((a.size - i : Nat) : Int) := by omega
              have hms : mx (shK b a i) (k + 1) = max (mx (shK b a i) k) (shK b a i k) := rfl
              have hrk : shK b a i k = if 0 < l.length then k + 1 else 0 := by rw [lookup_len pl]; rfl
              have hlb : l.length ≤ 60 := by rw [lookup_len pl]; exact Nat.le_trans (places_len _ _) hb3
              have hmb := shK_le b a i k
              rw [hrk] at hms
              clear hcell hck tl pl el hrk e0
              generalize l.length = q at *
              by_cases f1 : 0 < q
              · rw [if_pos f1] at hms
                have y3 : (0 : Int) < (q : Int) := by omega
                have hmm : max M (mx (shK b a i) (k + 1)) = max (max M (mx (shK b a i) k)) (k + 1) := by rw [hms]; omega
                have HMM := Lib.hid hmm
                have hb0 : max M (mx (shK b a i) k) ≤ 60 := by omega
                clear hms hmm hmb
                generalize hm1 : max M (mx (shK b a i) (k + 1)) = m1 at *
                generalize max M (mx (shK b a i) k) = m0 at *
                have HM1' := Lib.hid hm1
                clear hm1
                have em : (if m0 < k + 1 then ((k : Int) + 1) else (m0 : Int)) = (m1 : Int) := by rw [HMM.out]; split <;> omega
                have em2 : (if (m0 : Int) < (k : Int) + 1 then ((k : Int) + 1) else (m0 : Int)) = (m1 : Int) := by rw [HMM.out]; split <;> omega
                go_wp2
                go_round
                case rel => exact ⟨k + 1, by omega, by go_num, by rw [HM1'.out]⟩
                case measure => simp [intOf]; omega
              · rw [if_neg f1] at hms
                obtain rfl : q = 0 := by omega
                have hmm : max M (mx (shK b a i) (k + 1)) = max M (mx (shK b a i) k) := by rw [hms]; omega
                have HMM := Lib.hid hmm
                clear hms hmm
                go_wp2
                go_round
                case rel => exact ⟨k + 1, by omega, by go_num, by rw [HMM.out]⟩
                case measure => simp [intOf]; omega
            · obtain rfl : k = a.size - i := by omega
              have hf : Hid (max M (mx (shK b a i) (a.size - i)) = M1) := hMs.out.symm
              rw [hf.out]
              clear HV HLL HVL e0
              go_wp2
              go_roundw
              case rel => exact ⟨i + 1, by omega, by go_num, by rw [HM1.out], HK5⟩
              case measure => simp [intOf]; omega
        · obtain rfl : i = a.size := by omega
          rw [HL2.out]
          have HR' := Lib.hid (HS.out wr)
          clear HL1 HL2 HOB HXA
          generalize shN a b = rn at *
          go_wp2_with fail
          refine HR'.out.mono ?_
          rintro e w4 ⟨rfl, hq⟩
          have HK4 := Lib.hid (Grew.drewEx (HW2.out.trans HW.out) hq)
          clear HR' hq
          go_wp2
          go_roundw
          case rel => exact ⟨.inr (.inr rfl), HK4⟩
          case measure => decide
    · have HK := Lib.hid (HG1.out.trans HW.out)
      clear q0 q1 q2 q3 HCW HW
      go_wp2_with fail
      refine (HC3.out wr HK.out).mono ?_
      rintro e w5 ⟨rfl, k5⟩
      go_wp2
      go_ret
      exact ⟨rfl, HK.out.trans k5⟩
end Go.Proofs.YtpknikogkaogjaaDoor
