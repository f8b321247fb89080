/- Texts in one: RecD Rec SaisD Sais32 Sais8 Text -/
import Derived.Test.YtoebcbmkkhbldaaDoorA2
import Derived.Deep.DeepCutAuto
import Derived.Test.YtoebcbmkkhbldaaDoorA4
import Derived.Test.YtoebcbmkkhbldaaDoorA3
/- The walks over recurse_32. -/
set_option linter.unusedVariables false
namespace Go.Proofs.YtoebcbmkkhbldaaDoor
open Go.RowKit Go.Mem Sais
set_option maxRecDepth 100000


def SaisPost (T : Nat → Nat) (n sb so pb po pn : Nat) (w : World) (e : Ending) (w' : World) : Prop :=
  e = .returned (.tuple #[]) ∧ ∃ sa' p' : Nat → Int, Hold .i32 w' sb so n sa' ∧ IsSA T n sa' ∧ Hold .i32 w' pb po pn p' ∧ p' 0 = -1 ∧ Kept (Two sb so n pb po pn) w w'
/-- THE CONTRACT of the sort over a text of n numbers. -/
def S32 (n : Nat) : Prop := ∀ (T : Nat → Nat) (M tb tx tc sb so sc pb po pn pc : Nat) (sa p : Nat → Int) (w : World),
  2 ≤ n → n ≤ 1073741824 → 0 < M → M ≤ 1073741824 → (∀ i, i < n → T i < M) → M ≤ pn → pn ≤ pc → pn ≤ 1073741824 → n ≤ sc → n ≤ tc →
  Apart tb tx n sb so n → Apart tb tx n pb po pn → Apart sb so n pb po pn →
  Rd .i32 w tb tx n (fun i => (T i : Int)) → Hold .i32 w sb so n sa → (∀ x, x < n → sa x = 0) → Hold .i32 w pb po pn p →
  Calls Tryd.prog 61 #[.slice (some ⟨tb, tx, none⟩) n tc, .int .i64 M, .slice (some ⟨sb, so, none⟩) n sc, .slice (some ⟨pb, po, none⟩) pn pc] w (SaisPost T n sb so pb po pn w)
def RecPost (R : Nat → Nat) (N m sb so pb po pn : Nat) (p : Nat → Int) (w : World) (e : Ending) (w' : World) : Prop :=
  e = .returned (.tuple #[]) ∧ ∃ sa' p' : Nat → Int, Hold .i32 w' sb so N sa' ∧ IsSA R m sa' ∧ Hold .i32 w' pb po pn p' ∧ ((∀ j, j < pn → p' j = p j) ∨ p' 0 = -1) ∧ Kept (Two sb so N pb po pn) w w'
/-- What is chosen for the temporary row. -/
def TmpSel (w : World) (sb so N m pb po pn maxID : Nat) (v : Value) (wx : World) : Prop :=
  ∃ (qb qo qn qc : Nat) (p2 : Nat → Int), v = .slice (some ⟨qb, qo, none⟩) qn qc ∧ maxID ≤ qn ∧ qn ≤ qc ∧ qn ≤ 1073741824 ∧ Hold .i32 wx qb qo qn p2 ∧ Apart sb so m qb qo qn ∧ Apart sb (so + (N - m)) m qb qo qn ∧ Kept (fun _ _ => False) w wx ∧
    ((qb = pb ∧ qo = po ∧ qn = pn) ∨ (Apart pb po pn qb qo qn ∧ ((qb = sb ∧ so ≤ qo ∧ qo + qn ≤ so + N) ∨ w.heap.size ≤ qb)))
theorem IsSA.congr {R : Nat → Nat} {m : Nat} {f g : Nat → Int} (h : IsSA R m f) (e : ∀ x, x < m → g x = f x) : IsSA R m g :=
  ⟨fun k hk => by obtain ⟨x, hx, hv⟩ := h.all k hk; exact ⟨x, hx, by rw [e x hx, hv]⟩, fun x hx => by rw [e x hx]; exact h.val x hx, fun x y a b hxy hy ha hb => h.sorted x y a b hxy hy (by rw [← e x (by omega)]; exact ha) (by rw [← e y hy]; exact hb)⟩
/-- The end of recurse: what the inner sort leaves. -/
theorem rec_end {R : Nat → Nat} {N m sb so pb po pn maxID qb qo qn : Nat} {sa p p2 : Nat → Int} {w wx wy w' : World} {e : Ending} (hmN : 2 * m + 1 ≤ N) (hm2 : 2 ≤ m) (hpn : 0 < pn) (hS : Hold .i32 w sb so N sa) (hP : Hold .i32 w pb po pn p) (hap : Apart sb so N pb po pn)
    (hk1 : Kept (fun _ _ => False) w wx) (hk2 : Kept (In sb so m) wx wy) (hq : (qb = pb ∧ qo = po ∧ qn = pn) ∨ (Apart pb po pn qb qo qn ∧ ((qb = sb ∧ so ≤ qo ∧ qo + qn ≤ so + N) ∨ w.heap.size ≤ qb)))
    (hpost : SaisPost R m sb so qb qo qn wy e w') : RecPost R N m sb so pb po pn p w e w' := by
  obtain ⟨he, s', p', h1, h2, h3, h4, h5⟩ := hpost
  have hsz : sb < w.heap.size := hS.lt (by omega)
  have hpz : pb < w.heap.size := hP.lt hpn
  have hK : Kept (Two sb so N pb po pn) w w' := by
    have k1 : Kept (Two sb so N pb po pn) w wx := hk1.mono fun _ _ _ h => h.elim
    have k2 : Kept (Two sb so N pb po pn) w wy := k1.trans' hk2 fun x o _ hx => .inl ⟨hx.1, hx.2.1, by have := hx.2.2; omega⟩
    refine k2.trans' h5 fun x o hx hh => ?_
    rcases hh with hh | hh
    · exact .inl ⟨hh.1, hh.2.1, by have := hh.2.2; omega⟩
    · unfold In at hh
      rcases hq with ⟨rfl, rfl, rfl⟩ | ⟨_, ⟨rfl, h6, h7⟩ | h6⟩
      · exact .inr hh
      · exact .inl ⟨hh.1, by omega, by omega⟩
      · omega
  have hSy : Hold .i32 wx sb so N sa := hS.kept hk1 fun _ _ h => h
  -- the array's cells behind
  have hex : ∃ sa', Hold .i32 w' sb so N sa' := by
    refine Hold.of_each fun j hj => ?_
    by_cases hjm : j < m
    · exact ⟨_, h1 j hjm⟩
    · have hfz : w'.frozen? ⟨sb, so + j, none⟩ = false := by rw [hK.frozen sb _ hsz]; exact (hS j hj).2
      rcases hq with ⟨rfl, rfl, rfl⟩ | ⟨_, ⟨rfl, h6, h7⟩ | h6⟩
      · refine ⟨sa j, ?_, hfz⟩
        have c2 : wy.cell? ⟨sb, so + j, none⟩ = wx.cell? ⟨sb, so + j, none⟩ := hk2.cell sb _ (hSy.lt (by omega)) (fun hh => by unfold In at hh; omega)
        rw [h5.cell sb _ (Nat.lt_of_lt_of_le (hSy.lt (by omega)) hk2.size) (fun hh => ?_), c2]
        · exact (hSy j hj).1
        · rcases hh with hh | hh
          · unfold In at hh; omega
          · exact hap.out hj hh
      · by_cases hin : qo ≤ so + j ∧ so + j < qo + qn
        · have := h3 (so + j - qo) (by omega)
          rw [show qo + (so + j - qo) = so + j by omega] at this
          exact ⟨_, this⟩
        · refine ⟨sa j, ?_, hfz⟩
          have c2 : wy.cell? ⟨qb, so + j, none⟩ = wx.cell? ⟨qb, so + j, none⟩ := hk2.cell qb _ (hSy.lt (by omega)) (fun hh => by unfold In at hh; omega)
          rw [h5.cell qb _ (Nat.lt_of_lt_of_le (hSy.lt (by omega)) hk2.size) (fun hh => ?_), c2]
          · exact (hSy j hj).1
          · rcases hh with hh | hh
            · unfold In at hh; omega
            · unfold In at hh; omega
      · refine ⟨sa j, ?_, hfz⟩
        have c2 : wy.cell? ⟨sb, so + j, none⟩ = wx.cell? ⟨sb, so + j, none⟩ := hk2.cell sb _ (hSy.lt (by omega)) (fun hh => by unfold In at hh; omega)
        rw [h5.cell sb _ (Nat.lt_of_lt_of_le (hSy.lt (by omega)) hk2.size) (fun hh => ?_), c2]
        · exact (hSy j hj).1
        · rcases hh with hh | hh
          · unfold In at hh; omega
          · unfold In at hh; omega
  obtain ⟨sa', hsa'⟩ := hex
  have hisa : IsSA R m sa' := IsSA.congr h2 fun x hx => hsa'.uniq h1 (j := x) (j' := x) (by omega) hx rfl
  rcases hq with ⟨rfl, rfl, rfl⟩ | ⟨hpq, hq⟩
  · exact ⟨he, sa', p', hsa', hisa, h3, .inr h4, hK⟩
  · refine ⟨he, sa', p, hsa', hisa, ?_, .inl fun _ _ => rfl, hK⟩
    have a1 : Hold .i32 wx pb po pn p := hP.kept hk1 fun _ _ h => h
    have a2 : Hold .i32 wy pb po pn p := a1.kept hk2 fun j hj hh => hap.symm.out hj ⟨hh.1, hh.2.1, by have := hh.2.2; omega⟩
    refine a2.kept h5 fun j hj hh => ?_
    rcases hh with hh | hh
    · exact hap.symm.out hj ⟨hh.1, hh.2.1, by have := hh.2.2; omega⟩
    · exact hpq.out hj hh

end Go.Proofs.YtoebcbmkkhbldaaDoor

/- The walks over recurse_32. -/
set_option linter.unusedVariables false
namespace Go.Proofs.YtoebcbmkkhbldaaDoor
open Go.RowKit Go.Mem Sais
set_option maxRecDepth 100000


set_option maxHeartbeats 8000000 in
theorem recurse_32 (R : Nat → Nat) (N m maxID sb so sc pb po pn pc : Nat) (sa p : Nat → Int) (w : World) (IH : S32 m) (hN : N ≤ 1073741824) (hmN : 2 * m + 1 ≤ N) (hm2 : 2 ≤ m) (hid0 : 0 < maxID) (hid1 : maxID ≤ m) (hR : ∀ r, r < m → R r < maxID) (hpn : 0 < pn) (hpn2 : pn ≤ 1073741824) (hpc : pn ≤ pc) (hsc : N ≤ sc)
    (hap : Apart sb so N pb po pn) (hS : Hold .i32 w sb so N sa) (hP : Hold .i32 w pb po pn p) (hT : ∀ r, r < m → sa (N - m + r) = R r) :
    Calls Tryd.prog 41 #[.slice (some ⟨sb, so, none⟩) N sc, .slice (some ⟨pb, po, none⟩) pn pc, .int .i64 m, .int .i64 maxID] w (RecPost R N m sb so pb po pn p w) := by
  have HIH := Lib.hid IH; clear IH
  have HS := Lib.hid hS; clear hS
  have HP := Lib.hid hP; clear hP
  have HT := Lib.hid hT; clear hT
  have HR := Lib.hid hR; clear hR
  have x1 : N - (N - m) = m := by omega
  have x2 : ((N : Int) - (m : Int)).toNat = N - m := by omega
  have x3 : (0 : Int) ≤ (N : Int) - (m : Int) := by omega
  have x4 : (N : Int) - (m : Int) ≤ (N : Int) := by omega
  have x5 : (N : Int) - (m : Int) ≤ (sc : Int) := by omega
  have x6 : ¬ sc = N - m := by omega
  have x7 : (m : Int) ≤ (N : Int) - (m : Int) := by omega
  have x8 : (m : Int) ≤ (sc : Int) := by omega
  have x9 : ¬ sc = m := by omega
  have x10 : (0 : Int) ≤ (m : Int) := by omega
  go_enter Tryd.func41, Tryd.ntmps41
  go_wp2
  go_quiet (fail)
  generalize hwq : w.drewN _ = wq
  obtain ⟨nq, hwr⟩ : ∃ k, w.drewN k = wq := ⟨_, hwq⟩
  clear hwq
  have HK0 : Hid (Kept (fun _ _ => False) w wq) := by subst hwr; exact (Kept.refl _ w).drewN nq
  clear hwr
  go_upto_if 34 with fail
  go_cut [11] (fun v wx => wx = wq ∧ TmpSel w sb so N m pb po pn 0 v wx)
  case first =>
    have hPq := HP.out.kept HK0.out (fun _ _ h => h)
    have hSq := HS.out.kept HK0.out (fun _ _ h => h)
    by_cases c1 : pn < N - m - m
    · have HF := Lib.hid (show TmpSel w sb so N m pb po pn 0 (.slice (some ⟨sb, so + m, none⟩) (N - m - m) (sc - m)) wq from
        ⟨sb, so + m, N - m - m, sc - m, _, rfl, Nat.zero_le _, by omega, by omega, hSq.part m (N - m - m) (by omega), .inr (by omega), .inr (by omega), HK0.out, .inr ⟨(hap.symm.symm.sub (d := m) (m := N - m - m) (by omega)).symm, .inl ⟨rfl, by omega, by omega⟩⟩⟩)
      clear hPq hSq
      have c1' : (pn : Int) < ((N - m - m : Nat) : Int) := by omega
      go_wp2
      go_meet
      exact ⟨rfl, HF.out⟩
    · have HF := Lib.hid (show TmpSel w sb so N m pb po pn 0 (.slice (some ⟨pb, po, none⟩) pn pc) wq from
        ⟨pb, po, pn, pc, p, rfl, Nat.zero_le _, hpc, hpn2, hPq, hap.head (by omega), hap.sub (by omega), HK0.out, .inl ⟨rfl, rfl, rfl⟩⟩)
      clear hPq hSq
      have c1' : ¬ (pn : Int) < ((N - m - m : Nat) : Int) := by omega
      go_wp2
      go_meet
      exact ⟨rfl, HF.out⟩
  case rest =>
    obtain ⟨rfl, hsel⟩ := hcut
    obtain ⟨qb, qo, qn, qc, p2, rfl, -, hq1, hq2, hq3, hq4, hq5, hq6, hq7⟩ := hsel
    have HQ3 := Lib.hid hq3; have HQ4 := Lib.hid hq4; have HQ5 := Lib.hid hq5; have HQ6 := Lib.hid hq6; have HQ7 := Lib.hid hq7
    clear hq3 hq4 hq5 hq6 hq7 x1 x2 x3 x4 x5 x6 x7 x8 x9 x10
    go_upto_if 39 with fail
    go_cut [11] (fun v wy => TmpSel w sb so N m pb po pn maxID v wy)
    case first =>
      by_cases c2 : qn < m
      · have c2' : (qn : Int) < (m : Int) := by omega
        have hnew : ∀ (z : Nat), maxID ≤ z → z ≤ 1073741824 → TmpSel w sb so N m pb po pn maxID (.slice (some ⟨wc.heap.size, 0, none⟩) z z) (wc.alloc (.cells (madeCells #[.int .i32 0] z) 21)) := fun z hz1 hz2 => by
          have h1 := HK0.out.size
          have h2 := HS.out.lt (by omega)
          have h3 := HP.out.lt hpn
          exact ⟨_, 0, z, z, _, rfl, hz1, Nat.le_refl _, hz2, Hold.made .i32 wc _ z, .inl (by omega), .inl (by omega), HK0.out.alloc _, .inr ⟨.inl (by omega), .inr h1⟩⟩
        have HNEW := Lib.hid hnew; clear hnew
        by_cases c3 : maxID < m / 2
        · have hmk := Tryd.make32 (n := m / 2) (hn := by omega)
          have c3' : (maxID : Int) < (m : Int) / 2 := by omega
          have hcast : ((m / 2 : Nat) : Int) = (m : Int) / 2 := by omega
          have HM := Lib.hid (HNEW.out (m / 2) (by omega) (by omega))
          rw [hcast] at hmk
          clear hcast HNEW
          go_wp2
          go_meet
          exact HM.out
        · have hmk := Tryd.make32 (n := maxID) (hn := by omega)
          have c3' : ¬ (maxID : Int) < (m : Int) / 2 := by omega
          have HM := Lib.hid (HNEW.out maxID (Nat.le_refl _) (by omega))
          clear HNEW
          go_wp2
          go_meet
          exact HM.out
      · have c2' : ¬ (qn : Int) < (m : Int) := by omega
        have HM := Lib.hid (show TmpSel w sb so N m pb po pn maxID (.slice (some ⟨qb, qo, none⟩) qn qc) wc from ⟨qb, qo, qn, qc, p2, rfl, by omega, hq1, hq2, HQ3.out, HQ4.out, HQ5.out, HQ6.out, HQ7.out⟩)
        go_wp2
        go_meet
        exact HM.out
    case rest =>
      clear HQ3 HQ4 HQ5 HQ6 HQ7 hq1 hq2 HK0
      obtain ⟨qb, qo, qn, qc, p2, rfl, hq0, hq1, hq2, hq3, hq4, hq5, hq6, hq7⟩ := hcut
      have hSy := HS.out.kept hq6 (fun _ _ h => h)
      obtain ⟨w1, hcl, hd1, hk1⟩ := run_clear (P := Tryd.prog) (t := 43) wc Tryd.underlying43 Tryd.zero21 sc (by omega : 0 < m) (hSy.head (by omega : m ≤ N))
      have hq31 := hq3.kept hk1 (fun j hj => hq4.symm.out hj)
      have ht1 : Rd .i32 w1 sb (so + (N - m)) m (fun i => (R i : Int)) := by
        have h1 := ((hSy.part (N - m) m (by omega)).rd.congr (g := fun i => (R i : Int)) (fun j hj => (HT.out j hj).symm))
        exact h1.kept hk1 fun j hj hh => by unfold In at hh; omega
      have hcall := HIH.out R maxID sb (so + (N - m)) (sc - (N - m)) sb so sc qb qo qn qc _ p2 w1 hm2 (by omega) hid0 (by omega) HR.out hq0 hq1 hq2 (by omega) (by omega) (.inr (by omega)) hq5 hq4 ht1 hd1 (fun _ _ => rfl) hq31
      have HC := Lib.hid hcall
      have HE := Lib.hid (fun e w' => rec_end (R := R) (e := e) (w' := w') (maxID := maxID) (p2 := p2) hmN hm2 hpn HS.out HP.out hap hq6 hk1 hq7)
      clear hcall hq3 hq31 hq4 hq5 hq6 hq7 hd1 hk1 ht1 hSy
      go_wp2_with (go_at_call 61; refine HC.out.mono ?_; intro e w' hpost; have HPO := Lib.hid (HE.out _ _ hpost); obtain ⟨rfl, hpost⟩ := hpost; clear hpost)
      go_end0
      exact HPO.out

end Go.Proofs.YtoebcbmkkhbldaaDoor

/- The walks over the sort. -/
set_option linter.unusedVariables false
namespace Go.Proofs.YtoebcbmkkhbldaaDoor
open Go.RowKit Go.Mem Sais
set_option maxRecDepth 100000


theorem Tryd.size21 : (Tryd.prog.info? 21).map (·.size) = some 1 := by kernel_rfl
/-- Where everything lies: text, array, temporary row (the counts first, then the pointers); the bounds. -/
structure Geo (T : Nat → Nat) (n M tb tx sb so pb po pn fm : Nat) : Prop where
  hT : ∀ i, i < n → T i < M
  hn : n ≤ 1073741824
  n2 : 2 ≤ n
  M0 : 0 < M
  M1 : M ≤ 1073741824
  hfm : fm = 0 ∨ fm = M
  room : fm + M ≤ pn
  hpn : pn ≤ 1073741824
  ts : Apart tb tx n sb so n
  tp : Apart tb tx n pb po pn
  sp : Apart sb so n pb po pn
section
variable {k : IntKind} {T : Nat → Nat} {n M tb tx sb so pb po pn fm : Nat} {fv : Value} {w0 w w' : World} {sa sa' : Nat → Int}
theorem Geo.lay (G : Geo T n M tb tx sb so pb po pn fm) : Lay T n M tb tx sb so pb po fm pb (po + fm) := by
  have h1 := G.room
  have h2 := G.tp
  have h3 := G.sp
  refine ⟨G.hT, G.hn, G.M0, G.M1, G.ts, ?_, ?_, ?_, ?_, ?_⟩ <;> unfold Apart at * <;> omega
/-- The state between two calls. -/
def Sx (k : IntKind) (T : Nat → Nat) (n M tb tx sb so pb po pn fm : Nat) (fv : Value) (w0 w : World) (sa : Nat → Int) : Prop :=
  (∃ g, St k T n M tb tx sb so pb po fm pb (po + fm) fv w sa g) ∧ (∃ p, Hold .i32 w pb po pn p) ∧ Kept (Two sb so n pb po pn) w0 w
theorem Sx.post (G : Geo T n M tb tx sb so pb po pn fm) (h : Sx k T n M tb tx sb so pb po pn fm fv w0 w sa) {v : Value} {R : (Nat → Int) → Prop} {e : Ending} (hp : SPost k T n M tb tx sb so pb po fm pb (po + fm) fv w v R e w') :
    e = .returned v ∧ ∃ sa', Sx k T n M tb tx sb so pb po pn fm fv w0 w' sa' ∧ R sa' := by
  obtain ⟨he, sa', g', h1, h2, h3⟩ := hp
  obtain ⟨_, ⟨p, hp⟩, hk⟩ := h
  have hroom := G.room
  refine ⟨he, sa', ⟨⟨g', h1⟩, ?_, ?_⟩, h3⟩
  · refine Hold.of_each fun j hj => ?_
    by_cases hj1 : j < fm
    · rcases h1.f with ⟨h4, _⟩ | ⟨h4, fc, f, _, _, h5, _⟩
      · omega
      · exact ⟨_, h5 j (by omega)⟩
    · by_cases hj2 : j < fm + M
      · have := h1.b (j - fm) (by omega)
        rw [show po + fm + (j - fm) = po + j by omega] at this
        exact ⟨_, this⟩
      · have hb := hp.lt (by omega)
        refine ⟨p j, ?_, ?_⟩
        · rw [h2.cell pb _ hb (fun hh => ?_)]
          · exact (hp j hj).1
          · rcases hh with hh | hh | hh
            · exact G.sp.symm.out hj hh
            · unfold In at hh; omega
            · unfold In at hh; omega
        · rw [h2.frozen pb _ hb]; exact (hp j hj).2
  · refine hk.trans' h2 fun x o _ hh => ?_
    rcases hh with hh | hh | hh
    · exact .inl hh
    · unfold In at hh; exact .inr ⟨hh.1, by omega, by omega⟩
    · unfold In at hh; exact .inr ⟨hh.1, by omega, by omega⟩
/-- A call that writes the array alone. -/
theorem Sx.arr (G : Geo T n M tb tx sb so pb po pn fm) (h : Sx k T n M tb tx sb so pb po pn fm fv w0 w sa) (hk : Kept (In sb so n) w w') (hs : Hold .i32 w' sb so n sa') : Sx k T n M tb tx sb so pb po pn fm fv w0 w' sa' := by
  obtain ⟨⟨g, h1⟩, ⟨p, hp⟩, hk0⟩ := h
  have L := G.lay
  exact ⟨⟨g, h1.t.kept hk fun j hj => L.ts.out hj, hs, h1.f.kept hk fun j hj => L.sf.symm.out hj, h1.b.kept hk fun j hj => L.sp.symm.out hj⟩, ⟨p, hp.kept hk fun j hj => G.sp.symm.out hj⟩, hk0.trans' hk fun _ _ _ hh => .inl hh⟩
/-- Behind the recursion. -/
theorem Sx.rec (G : Geo T n M tb tx sb so pb po pn fm) (h : Sx k T n M tb tx sb so pb po pn fm fv w0 w sa) {p p' : Nat → Int} (hp : Hold .i32 w pb po pn p) (hk : Kept (Two sb so n pb po pn) w w') (hs : Hold .i32 w' sb so n sa') (hp' : Hold .i32 w' pb po pn p') (hc : (∀ j, j < pn → p' j = p j) ∨ p' 0 = -1) :
    Sx k T n M tb tx sb so pb po pn fm fv w0 w' sa' := by
  obtain ⟨⟨g, h1⟩, _, hk0⟩ := h
  have hroom := G.room
  have hM0 := G.M0
  have ht : Rd k w' tb tx n (fun i => (T i : Int)) := h1.t.kept hk fun j hj hh => hh.elim (G.ts.out hj) (G.tp.out hj)
  have hb : Hold .i32 w' pb (po + fm) M (fun j => p' (fm + j)) := hp'.part fm M hroom
  refine ⟨⟨_, ht, hs, ?_, hb⟩, ⟨p', hp'⟩, hk0.trans hk⟩
  rcases h1.f with h4 | ⟨h4, fc, f, h5, h6, h7, h8⟩
  · exact .inl h4
  · refine .inr ⟨h4, fc, p', h5, h6, hp'.head (by omega), ?_⟩
    have hfp : ∀ j, j < M → f j = p j := fun j hj => h7.uniq hp (j := j) (j' := j) hj (by omega) rfl
    rcases hc with hc | hc
    · have e : ∀ j, j < M → p' j = f j := fun j hj => by rw [hc j (by omega), hfp j hj]
      rcases h8 with h8 | h8
      · exact .inl (by rw [e 0 hM0]; exact h8)
      · exact .inr fun c hc => by rw [e c hc]; exact h8 c hc
    · exact .inl (by omega)
/-- The end: the mark in the temporary row. -/
theorem Sx.end (G : Geo T n M tb tx sb so pb po pn fm) (h : Sx k T n M tb tx sb so pb po pn fm fv w0 w sa) (hsa : IsSA T n sa) : SaisPost T n sb so pb po pn w0 (.returned (.tuple #[])) (w.setCell ⟨pb, po, none⟩ (.int .i32 (-1))) := by
  obtain ⟨⟨g, h1⟩, ⟨p, hp⟩, hk0⟩ := h
  have hroom := G.room
  have hM0 := G.M0
  have h2 := hp.set (i := 0) (by omega) (-1)
  have h3 := h1.s.set_other G.sp (i := 0) (by omega) (.int .i32 (-1))
  have h4 := hk0.set (b := pb) (o := po + 0) (.int .i32 (-1)) (.inr ⟨rfl, by omega, by omega⟩)
  rw [Nat.add_zero] at h2 h3 h4
  exact ⟨rfl, sa, _, h3, hsa, h2, upd_same _ _ _, h4⟩
theorem Sx.cell0 (G : Geo T n M tb tx sb so pb po pn fm) (h : Sx k T n M tb tx sb so pb po pn fm fv w0 w sa) : ∃ v, w.cell? ⟨pb, po, none⟩ = some (.int .i32 v) ∧ w.frozen? ⟨pb, po, none⟩ = false := by
  obtain ⟨_, ⟨p, hp⟩, _⟩ := h
  have hroom := G.room
  have hM0 := G.M0
  have := hp 0 (by omega)
  rw [Nat.add_zero] at this
  exact ⟨_, this⟩
end

end Go.Proofs.YtoebcbmkkhbldaaDoor

/- The walks over the sort. -/
set_option linter.unusedVariables false
namespace Go.Proofs.YtoebcbmkkhbldaaDoor
open Go.RowKit Go.Mem Sais
set_option maxRecDepth 100000


set_option maxHeartbeats 16000000 in
theorem sais_32_step (n : Nat) (IH : ∀ m, m < n → S32 m) : S32 n := by
  intro T M tb tx tc sb so sc pb po pn pc sa p w hn2 hn hM0 hM1 hT hMp hpc hpn hsc htc hts htp hsp ht hs hz hp
  have HIH := Lib.hid IH; clear IH
  have HS := Lib.hid hs; clear hs
  have HP := Lib.hid hp; clear hp
  have HT := Lib.hid ht; clear ht
  have HZ := Lib.hid hz; clear hz
  have HTT := Lib.hid hT; clear hT
  have y1 : ((n : Int) != (n : Int)) = false := by simp
  have y2 : ((n : Int) == 0) = false := beq_eq_false_iff_ne.2 (by omega)
  have y3 : ((n : Int) == 1) = false := beq_eq_false_iff_ne.2 (by omega)
  have y4 : ¬ (pn : Int) < (M : Int) := by omega
  go_enter Tryd.func61, Tryd.ntmps61
  go_upto_if 36 with fail
  go_cut [8, 9] (fun fs bs wx => ∃ (fm bc : Nat) (fv : Value), fv = fs ∧ bs = .slice (some ⟨pb, po + fm, none⟩) M bc ∧ M ≤ bc ∧ Hid (Geo T n M tb tx sb so pb po pn fm) ∧ Hid (Sx .i32 T n M tb tx sb so pb po pn fm fv w wx sa))
  case first =>
    by_cases c1 : 2 * M ≤ pn
    · have z1 : (M : Int) ≤ (pc : Int) := by omega
      have z2 : 2 * (M : Int) ≤ (pc : Int) := by omega
      have z3 : ¬ pc = M := by omega
      have z4 : 2 * M - M = M := by omega
      have z5 : (2 * (M : Int)).toNat = 2 * M := by omega
      have z6 : 2 * (M : Int) ≤ (pn : Int) := by omega
      have hG : Geo T n M tb tx sb so pb po pn M := ⟨HTT.out, hn, hn2, by omega, by omega, .inr rfl, by omega, hpn, hts, htp, hsp⟩
      obtain ⟨hc0, hf0⟩ := HP.out 0 (by omega)
      rw [Nat.add_zero] at hc0 hf0
      obtain ⟨v0, hv0⟩ : ∃ v, p 0 = v := ⟨_, rfl⟩
      rw [hv0] at hc0
      have HF : Hid (∀ q, Sx .i32 T n M tb tx sb so pb po pn M (.slice (some ⟨pb, po, none⟩) M pc) w ((w.setCell ⟨pb, po, none⟩ (.int .i32 (-1))).drewN q) sa) := fun q => by
        have h1 := HP.out.set (i := 0) (by omega) (-1)
        have h2 := HS.out.set_other hsp (i := 0) (by omega) (.int .i32 (-1))
        have h3 := HT.out.set_other htp (i := 0) (by omega) (.int .i32 (-1))
        have h4 := (Kept.refl (Two sb so n pb po pn) w).set (b := pb) (o := po + 0) (.int .i32 (-1)) (.inr ⟨rfl, by omega, by omega⟩)
        rw [Nat.add_zero] at h1 h2 h3 h4
        exact ⟨⟨_, h3.drewN q, h2.drewN q, .inr ⟨rfl, pc, _, by omega, rfl, (h1.head (by omega)).drewN q, .inl (by rw [upd_same]; omega)⟩, (h1.part M M (by omega)).drewN q⟩, ⟨_, h1.drewN q⟩, h4.drewN q⟩
      have HG := Lib.hid hG; clear hG hv0
      go_wp2
      go_quiet (fail)
      go_wp2
      go_meet
      exact ⟨M, pc - M, _, rfl, rfl, by omega, HG, HF _⟩
    · have z1 : (M : Int) ≤ (pc : Int) := by omega
      have z6 : ¬ 2 * (M : Int) ≤ (pn : Int) := by omega
      have hG : Geo T n M tb tx sb so pb po pn 0 := ⟨HTT.out, hn, hn2, by omega, by omega, .inl rfl, by omega, hpn, hts, htp, hsp⟩
      have HF : Hid (∀ q, Sx .i32 T n M tb tx sb so pb po pn 0 (.slice none 0 0) w (w.drewN q) sa) := fun q =>
        ⟨⟨_, HT.out.drewN q, HS.out.drewN q, .inl ⟨rfl, rfl⟩, (HP.out.head (by omega)).drewN q⟩, ⟨_, HP.out.drewN q⟩, (Kept.refl _ _).drewN q⟩
      have HG := Lib.hid hG; clear hG
      go_wp2
      go_quiet (fail)
      go_wp2
      go_meet
      exact ⟨0, pc, _, rfl, rfl, by omega, HG, HF _⟩

  case rest =>
    obtain ⟨fm, bc, fv, rfl, rfl, hbc, HG, HSX⟩ := hcut
    clear HS HP HT HTT y1 y2 y3 y4
    go_wp2_with fail
    obtain ⟨g, hSt⟩ := HSX.out.1
    refine (placeLMS_32 T n M tb tx tc sb so sc pb po fm pb (po + fm) bc fv sa g _ HG.out.lay hbc hSt HZ.out).mono ?_
    intro e w1 hpost
    obtain ⟨rfl, sa1, hSX1, hR⟩ := HSX.out.post HG.out hpost
    clear hpost hSt HSX
    have HSX := Lib.hid hSX1; clear hSX1
    have HR1 := Lib.hid hR; clear hR
    go_upto_if 56 with fail
    go_cut [11] (fun _ wx => ∃ sa2, Hid (Sx .i32 T n M tb tx sb so pb po pn fm fv w wx sa2) ∧ Hid (Laid T n 0 (kfull T n) sa2))
    case first =>
      have hmn : nLMS T n ≤ n := cnt_le _ _
      by_cases hm1 : 1 < nLMS T n
      · have hm1' : ¬ ((nLMS T n : Nat) : Int) ≤ 1 := by omega
        obtain ⟨lo, hF, hLd⟩ := HR1.out.1 hm1
        have HFi := Lib.hid hF; clear hF
        go_wp2_with fail
        obtain ⟨g, hSt⟩ := HSX.out.1
        refine (induceSubL_32 T n M tb tx tc sb so sc pb po fm pb (po + fm) bc fv _ g _ HG.out.lay hbc hSt lo HFi.out hLd).mono ?_
        intro e w1 hpost
        obtain ⟨rfl, sa1, hSX1, hR⟩ := HSX.out.post HG.out hpost
        clear hpost hSt HSX
        have HSX := Lib.hid hSX1; clear hSX1
        obtain ⟨P0, hI⟩ := hR
        go_wp2_with fail
        obtain ⟨g, hSt⟩ := HSX.out.1
        refine (induceSubS_32 T n M tb tx tc sb so sc pb po fm pb (po + fm) bc fv _ g _ HG.out.lay hbc hSt lo HFi.out P0 hI).mono ?_
        intro e w1 hpost
        obtain ⟨rfl, sa1, hSX1, hR⟩ := HSX.out.post HG.out hpost
        clear hpost hSt HSX
        have HSX := Lib.hid hSX1; clear hSX1
        have HTop := Lib.hid hR; clear hR hI hLd P0
        go_wp2_with fail
        obtain ⟨g, hSt⟩ := HSX.out.1
        refine (length_32 T n tb tx tc sb so sc _ _ _ HG.out.hn HG.out.ts hSt.t hSt.s).mono ?_
        rintro e w1 ⟨rfl, sa3, ee, hs3, hlen, hk3⟩
        have HSX3 := Lib.hid (HSX.out.arr HG.out hk3 hs3)
        have HAs := Lib.hid (fun lp => Asg.init HFi.out HTop.out hlen lp)
        clear hSt HSX hs3 hlen hk3
        go_wp2_with fail
        obtain ⟨g, hSt⟩ := HSX3.out.1
        refine (assignID_32 T n tb tx tc sb so sc lo (lc32 T n) sa3 _ HG.out.hn HFi.out (lenCode32 HG.out.hn) hsc htc HG.out.ts hSt.t hSt.s HAs.out (by omega)).mono ?_
        rintro e w1 ⟨rfl, sa4, lp, l, hs4, hasg, hk4⟩
        have HSX := Lib.hid (HSX3.out.arr HG.out hk4 hs4)
        have HA := Lib.hid hasg
        clear hSt HSX3 hs4 hasg hk4 HAs
        have hle := (nameSeq_le (T := T) (n := n) (nLMS T n - 1)).2
        have hge := (nameSeq_le (T := T) (n := n) (nLMS T n - 1)).1
        have hhalf := nLMS_half (T := T) (n := n) (by omega)
        go_upto_if 77 with fail
        go_cut [11] (fun v wx => ∃ sa5, v = .int .i64 (nameSeq T n (nLMS T n - 1) : Nat) ∧ Hid (Sx .i32 T n M tb tx sb so pb po pn fm fv w wx sa5) ∧ Hid (Srt T n sa5))
        case first =>
          by_cases hmx : nameSeq T n (nLMS T n - 1) < nLMS T n
          · have hmx' : ((nameSeq T n (nLMS T n - 1) : Nat) : Int) < ((nLMS T n : Nat) : Int) := by omega
            go_wp2_with fail
            obtain ⟨g, hSt⟩ := HSX.out.1
            refine (map_32 T n sb so sc _ _ _ (by omega) HG.out.hn hSt.s (MapI.init HFi.out HA.out)).mono ?_
            rintro e w1 ⟨rfl, sa5, vv, hs5, hmap, hk5⟩
            have HSX5 := Lib.hid (HSX.out.arr HG.out hk5 hs5)
            have HMF := Lib.hid hmap.final.2
            clear hSt HSX hs5 hmap hk5 HTop
            have HRR : Hid (∀ r, r < nLMS T n → ∃ p, LMS T n p ∧ idx T n p = r ∧ sa5 (n - nLMS T n + r) = (name T n p : Int) - 1 ∧ 1 ≤ name T n p ∧ name T n p ≤ nameSeq T n (nLMS T n - 1)) := fun r hr => by
              obtain ⟨p, hp, e⟩ := idx_surj hr
              exact ⟨p, hp, e, by rw [← e]; exact HMF.out p hp, name_pos p, name_le hp⟩
            go_wp2_with fail
            obtain ⟨g, hSt⟩ := HSX5.out.1
            obtain ⟨pp, hpp⟩ := HSX5.out.2.1
            have hroom := HG.out.room
            refine (recurse_32 (fun r => (sa5 (n - nLMS T n + r)).toNat) n (nLMS T n) (nameSeq T n (nLMS T n - 1)) sb so sc pb po pn pc sa5 pp _ (HIH.out _ (by omega)) HG.out.hn hhalf (by omega) (by omega) (by omega) (fun r hr => by obtain ⟨p, _, _, e, e1, e2⟩ := HRR.out r hr; show (sa5 (n - nLMS T n + r)).toNat < _; rw [e]; omega) (by have := HG.out.M0; omega) HG.out.hpn hpc hsc HG.out.sp hSt.s hpp (fun r hr => by obtain ⟨p, _, _, e, e1, e2⟩ := HRR.out r hr; show sa5 (n - nLMS T n + r) = (((sa5 (n - nLMS T n + r)).toNat : Nat) : Int); rw [e]; omega)).mono ?_
            rintro e w1 ⟨rfl, sa6, p6, hs6, hsa6, hp6, hc6, hk6⟩
            have HSX6 := Lib.hid (HSX5.out.rec HG.out hpp hk6 hs6 hp6 hc6)
            have HI6 := Lib.hid hsa6
            clear hSt HSX5 hpp hs6 hsa6 hp6 hc6 hk6 hroom
            go_wp2_with fail
            obtain ⟨g, hSt⟩ := HSX6.out.1
            refine (unmap_32 T n tb tx tc sb so sc sa6 _ HG.out.hn (by omega) hsc HG.out.ts hSt.t hSt.s (by omega) (fun x hx => HI6.out.val x hx)).mono ?_
            rintro e w1 ⟨rfl, sa7, hs7, hu7, hk7⟩
            have HSX7 := Lib.hid (HSX6.out.arr HG.out hk7 hs7)
            have HSR := Lib.hid (Srt.of_rec HFi.out (fun p hp => by
              obtain ⟨q, hq, e, e1, e2, e3⟩ := HRR.out (idx T n p) (idx_lt hp)
              have := idx_inj hq hp e
              subst this
              show (sa5 (n - nLMS T n + idx T n q)).toNat + 1 = name T n q
              rw [e1]; omega) HI6.out hu7)
            clear hSt HSX6 hs7 hu7 hk7 HI6 HRR HMF
            go_wp2
            go_meet
            exact ⟨_, rfl, HSX7, HSR⟩
          · have hmx' : ¬ ((nameSeq T n (nLMS T n - 1) : Nat) : Int) < ((nLMS T n : Nat) : Int) := by omega
            have x1 : n - (n - nLMS T n) = nLMS T n := by omega
            have x2 : ((n : Int) - ((nLMS T n : Nat) : Int)).toNat = n - nLMS T n := by omega
            have x3 : (0 : Int) ≤ (n : Int) - ((nLMS T n : Nat) : Int) := by omega
            have x4 : (n : Int) - ((nLMS T n : Nat) : Int) ≤ (n : Int) := by omega
            have x5 : (n : Int) - ((nLMS T n : Nat) : Int) ≤ (sc : Int) := by omega
            have x6 : ¬ sc = n - nLMS T n := by omega
            obtain ⟨g, hSt⟩ := HSX.out.1
            obtain ⟨w5, hcp, hs5, hk5⟩ := run_copy_top (P := Tryd.prog) _ 43 21 Tryd.underlying43 Tryd.size21 (c := sc) (c2 := sc - (n - nLMS T n)) (by omega : 2 * nLMS T n ≤ n) hSt.s
            have HSX5 := Lib.hid (HSX.out.arr HG.out (hk5.mono fun _ _ _ hh => ⟨hh.1, hh.2.1, by have := hh.2.2; omega⟩) hs5)
            have HSR := Lib.hid (Srt.of_top HFi.out HTop.out (by omega) (by omega) (sb := fun x => if x < nLMS T n then sa4 (n - nLMS T n + x) else sa4 x) (fun x hx => by
              have h1 := HA.out.top x hx
              obtain ⟨h2, h3⟩ := rho_spec HFi.out hx
              have h4 := HTop.out.a _ h2
              rw [h3] at h4
              simp only [hx, if_true]
              rw [h1, h4]))
            clear hSt HSX hs5 hk5
            go_wp2
            go_meet
            exact ⟨_, rfl, HSX5, HSR⟩
        case rest =>
          clear HTop HA HSX
          obtain ⟨sa5, rfl, HSX, HSR⟩ := hcut
          go_wp2_with fail
          obtain ⟨g, hSt⟩ := HSX.out.1
          refine (expand_32 T n M tb tx tc sb so sc pb po fm pb (po + fm) bc fv _ g _ HG.out.lay hbc hSt HSR.out (by omega)).mono ?_
          intro e w1 hpost
          obtain ⟨rfl, sa1, hSX1, hR⟩ := HSX.out.post HG.out hpost
          clear hpost hSt HSX
          have HSX := Lib.hid hSX1; clear hSX1
          have HLd := Lib.hid hR; clear hR

          go_wp2
          go_meet
          exact ⟨_, HSX, HLd⟩

      · have hm1' : ((nLMS T n : Nat) : Int) ≤ 1 := by omega
        have HLd := Lib.hid (HR1.out.2 (by omega))
        go_wp2
        go_meet
        exact ⟨_, HSX, HLd⟩
    case rest =>
      clear HR1 HSX HZ
      obtain ⟨sa2, HSX, HLd⟩ := hcut
      go_wp2_with fail
      obtain ⟨g, hSt⟩ := HSX.out.1
      refine (induceL_32 T n M tb tx tc sb so sc pb po fm pb (po + fm) bc fv _ g _ HG.out.lay hbc hSt HG.out.n2 HLd.out).mono ?_
      intro e w1 hpost
      obtain ⟨rfl, sa1, hSX1, hR⟩ := HSX.out.post HG.out hpost
      clear hpost hSt HSX
      have HSX := Lib.hid hSX1; clear hSX1
      obtain ⟨P0, hI⟩ := hR

      go_wp2_with fail
      obtain ⟨g, hSt⟩ := HSX.out.1
      refine (induceS_32 T n M tb tx tc sb so sc pb po fm pb (po + fm) bc fv _ g _ HG.out.lay hbc hSt HG.out.n2 P0 hI).mono ?_
      intro e w1 hpost
      obtain ⟨rfl, sa1, hSX1, hR⟩ := HSX.out.post HG.out hpost
      clear hpost hSt HSX
      have HSX := Lib.hid hSX1; clear hSX1
      have HSA := Lib.hid hR; clear hR hI HLd

      obtain ⟨v0, hc0, hf0⟩ := HSX.out.cell0 HG.out
      have hpn0 : (0 : Int) < (pn : Int) := by have := HG.out.room; have := HG.out.M0; omega
      have HE := Lib.hid (HSX.out.end HG.out HSA.out)
      clear HSX HSA
      go_wp2
      go_end0
      exact HE.out

end Go.Proofs.YtoebcbmkkhbldaaDoor

/- The walks over the sort. -/
set_option linter.unusedVariables false
namespace Go.Proofs.YtoebcbmkkhbldaaDoor
open Go.RowKit Go.Mem Sais
set_option maxRecDepth 100000


set_option maxHeartbeats 16000000 in
theorem sais_8_32 (IH : ∀ m, S32 m) (T : Nat → Nat) (n tb tx tc sb so sc pb po pn pc : Nat) (sa p : Nat → Int) (w : World) (hn2 : 2 ≤ n) (hn : n ≤ 1073741824) (hT : ∀ i, i < n → T i < 256) (hpn5 : 512 ≤ pn) (hpc : pn ≤ pc) (hpn : pn ≤ 1073741824) (hsc : n ≤ sc) (htc : n ≤ tc)
    (hts : Apart tb tx n sb so n) (htp : Apart tb tx n pb po pn) (hsp : Apart sb so n pb po pn) (ht : Rd .u8 w tb tx n (fun i => (T i : Int))) (hs : Hold .i32 w sb so n sa) (hz : ∀ x, x < n → sa x = 0) (hp : Hold .i32 w pb po pn p) :
    Calls Tryd.prog 20 #[.slice (some ⟨tb, tx, none⟩) n tc, .int .i64 256, .slice (some ⟨sb, so, none⟩) n sc, .slice (some ⟨pb, po, none⟩) pn pc] w (SaisPost T n sb so pb po pn w) := by
  have hMp : 256 ≤ pn := by omega
  have HIH := Lib.hid IH; clear IH
  have HS := Lib.hid hs; clear hs
  have HP := Lib.hid hp; clear hp
  have HT := Lib.hid ht; clear ht
  have HZ := Lib.hid hz; clear hz
  have HTT := Lib.hid hT; clear hT
  have y1 : ((n : Int) != (n : Int)) = false := by simp
  have y2 : ((n : Int) == 0) = false := beq_eq_false_iff_ne.2 (by omega)
  have y3 : ((n : Int) == 1) = false := beq_eq_false_iff_ne.2 (by omega)
  have y4 : ¬ (pn : Int) < (256 : Int) := by omega
  go_enter Tryd.func20, Tryd.ntmps20
  go_upto_if 36 with fail
  go_cut [8, 9] (fun fs bs wx => ∃ (fm bc : Nat) (fv : Value), fv = fs ∧ bs = .slice (some ⟨pb, po + fm, none⟩) 256 bc ∧ 256 ≤ bc ∧ Hid (Geo T n 256 tb tx sb so pb po pn fm) ∧ Hid (Sx .u8 T n 256 tb tx sb so pb po pn fm fv w wx sa))
  case first =>
    have z1 : (256 : Int) ≤ (pc : Int) := by omega
    have z2 : 2 * (256 : Int) ≤ (pc : Int) := by omega
    have z3 : ¬ pc = 256 := by omega
    have z4 : 2 * 256 - 256 = 256 := by omega
    have z5 : (2 * (256 : Int)).toNat = 2 * 256 := by omega
    have z6 : 2 * (256 : Int) ≤ (pn : Int) := by omega
    have hG : Geo T n 256 tb tx sb so pb po pn 256 := ⟨HTT.out, hn, hn2, by omega, by omega, .inr rfl, by omega, hpn, hts, htp, hsp⟩
    obtain ⟨hc0, hf0⟩ := HP.out 0 (by omega)
    rw [Nat.add_zero] at hc0 hf0
    obtain ⟨v0, hv0⟩ : ∃ v, p 0 = v := ⟨_, rfl⟩
    rw [hv0] at hc0
    have HF : Hid (∀ q, Sx .u8 T n 256 tb tx sb so pb po pn 256 (.slice (some ⟨pb, po, none⟩) 256 pc) w ((w.setCell ⟨pb, po, none⟩ (.int .i32 (-1))).drewN q) sa) := fun q => by
      have h1 := HP.out.set (i := 0) (by omega) (-1)
      have h2 := HS.out.set_other hsp (i := 0) (by omega) (.int .i32 (-1))
      have h3 := HT.out.set_other htp (i := 0) (by omega) (.int .i32 (-1))
      have h4 := (Kept.refl (Two sb so n pb po pn) w).set (b := pb) (o := po + 0) (.int .i32 (-1)) (.inr ⟨rfl, by omega, by omega⟩)
      rw [Nat.add_zero] at h1 h2 h3 h4
      exact ⟨⟨_, h3.drewN q, h2.drewN q, .inr ⟨rfl, pc, _, by omega, rfl, (h1.head (by omega)).drewN q, .inl (by rw [upd_same]; omega)⟩, (h1.part 256 256 (by omega)).drewN q⟩, ⟨_, h1.drewN q⟩, h4.drewN q⟩
    have HG := Lib.hid hG; clear hG hv0
    go_wp2
    go_quiet (fail)
    go_wp2
    go_meet
    exact ⟨256, pc - 256, _, rfl, rfl, by omega, HG, HF _⟩

  case rest =>
    obtain ⟨fm, bc, fv, rfl, rfl, hbc, HG, HSX⟩ := hcut
    clear HS HP HT HTT y1 y2 y3 y4
    go_wp2_with fail
    obtain ⟨g, hSt⟩ := HSX.out.1
    refine (placeLMS_8_32 T n tb tx tc sb so sc pb po fm pb (po + fm) bc fv sa g _ HG.out.lay hbc hSt HZ.out).mono ?_
    intro e w1 hpost
    obtain ⟨rfl, sa1, hSX1, hR⟩ := HSX.out.post HG.out hpost
    clear hpost hSt HSX
    have HSX := Lib.hid hSX1; clear hSX1
    have HR1 := Lib.hid hR; clear hR
    go_upto_if 56 with fail
    go_cut [11] (fun _ wx => ∃ sa2, Hid (Sx .u8 T n 256 tb tx sb so pb po pn fm fv w wx sa2) ∧ Hid (Laid T n 0 (kfull T n) sa2))
    case first =>
      have hmn : nLMS T n ≤ n := cnt_le _ _
      by_cases hm1 : 1 < nLMS T n
      · have hm1' : ¬ ((nLMS T n : Nat) : Int) ≤ 1 := by omega
        obtain ⟨lo, hF, hLd⟩ := HR1.out.1 hm1
        have HFi := Lib.hid hF; clear hF
        go_wp2_with fail
        obtain ⟨g, hSt⟩ := HSX.out.1
        refine (induceSubL_8_32 T n tb tx tc sb so sc pb po fm pb (po + fm) bc fv _ g _ HG.out.lay hbc hSt lo HFi.out hLd).mono ?_
        intro e w1 hpost
        obtain ⟨rfl, sa1, hSX1, hR⟩ := HSX.out.post HG.out hpost
        clear hpost hSt HSX
        have HSX := Lib.hid hSX1; clear hSX1
        obtain ⟨P0, hI⟩ := hR
        go_wp2_with fail
        obtain ⟨g, hSt⟩ := HSX.out.1
        refine (induceSubS_8_32 T n tb tx tc sb so sc pb po fm pb (po + fm) bc fv _ g _ HG.out.lay hbc hSt lo HFi.out P0 hI).mono ?_
        intro e w1 hpost
        obtain ⟨rfl, sa1, hSX1, hR⟩ := HSX.out.post HG.out hpost
        clear hpost hSt HSX
        have HSX := Lib.hid hSX1; clear hSX1
        have HTop := Lib.hid hR; clear hR hI hLd P0
        go_wp2_with fail
        obtain ⟨g, hSt⟩ := HSX.out.1
        refine (length_8_32 T n tb tx tc sb so sc _ _ _ HG.out.hT HG.out.hn HG.out.ts hSt.t hSt.s).mono ?_
        rintro e w1 ⟨rfl, sa3, ee, hs3, hlen, hk3⟩
        have HSX3 := Lib.hid (HSX.out.arr HG.out hk3 hs3)
        have HAs := Lib.hid (fun lp => Asg.init HFi.out HTop.out hlen lp)
        clear hSt HSX hs3 hlen hk3
        go_wp2_with fail
        obtain ⟨g, hSt⟩ := HSX3.out.1
        refine (assignID_8_32 T n tb tx tc sb so sc lo (lc8 T n) sa3 _ HG.out.hn HFi.out (lenCode8 HG.out.hn HG.out.hT) hsc htc HG.out.ts hSt.t hSt.s HAs.out (by omega)).mono ?_
        rintro e w1 ⟨rfl, sa4, lp, l, hs4, hasg, hk4⟩
        have HSX := Lib.hid (HSX3.out.arr HG.out hk4 hs4)
        have HA := Lib.hid hasg
        clear hSt HSX3 hs4 hasg hk4 HAs
        have hle := (nameSeq_le (T := T) (n := n) (nLMS T n - 1)).2
        have hge := (nameSeq_le (T := T) (n := n) (nLMS T n - 1)).1
        have hhalf := nLMS_half (T := T) (n := n) (by omega)
        go_upto_if 77 with fail
        go_cut [11] (fun v wx => ∃ sa5, v = .int .i64 (nameSeq T n (nLMS T n - 1) : Nat) ∧ Hid (Sx .u8 T n 256 tb tx sb so pb po pn fm fv w wx sa5) ∧ Hid (Srt T n sa5))
        case first =>
          by_cases hmx : nameSeq T n (nLMS T n - 1) < nLMS T n
          · have hmx' : ((nameSeq T n (nLMS T n - 1) : Nat) : Int) < ((nLMS T n : Nat) : Int) := by omega
            go_wp2_with fail
            obtain ⟨g, hSt⟩ := HSX.out.1
            refine (map_32 T n sb so sc _ _ _ (by omega) HG.out.hn hSt.s (MapI.init HFi.out HA.out)).mono ?_
            rintro e w1 ⟨rfl, sa5, vv, hs5, hmap, hk5⟩
            have HSX5 := Lib.hid (HSX.out.arr HG.out hk5 hs5)
            have HMF := Lib.hid hmap.final.2
            clear hSt HSX hs5 hmap hk5 HTop
            have HRR : Hid (∀ r, r < nLMS T n → ∃ p, LMS T n p ∧ idx T n p = r ∧ sa5 (n - nLMS T n + r) = (name T n p : Int) - 1 ∧ 1 ≤ name T n p ∧ name T n p ≤ nameSeq T n (nLMS T n - 1)) := fun r hr => by
              obtain ⟨p, hp, e⟩ := idx_surj hr
              exact ⟨p, hp, e, by rw [← e]; exact HMF.out p hp, name_pos p, name_le hp⟩
            go_wp2_with fail
            obtain ⟨g, hSt⟩ := HSX5.out.1
            obtain ⟨pp, hpp⟩ := HSX5.out.2.1
            have hroom := HG.out.room
            refine (recurse_32 (fun r => (sa5 (n - nLMS T n + r)).toNat) n (nLMS T n) (nameSeq T n (nLMS T n - 1)) sb so sc pb po pn pc sa5 pp _ (HIH.out _) HG.out.hn hhalf (by omega) (by omega) (by omega) (fun r hr => by obtain ⟨p, _, _, e, e1, e2⟩ := HRR.out r hr; show (sa5 (n - nLMS T n + r)).toNat < _; rw [e]; omega) (by have := HG.out.M0; omega) HG.out.hpn hpc hsc HG.out.sp hSt.s hpp (fun r hr => by obtain ⟨p, _, _, e, e1, e2⟩ := HRR.out r hr; show sa5 (n - nLMS T n + r) = (((sa5 (n - nLMS T n + r)).toNat : Nat) : Int); rw [e]; omega)).mono ?_
            rintro e w1 ⟨rfl, sa6, p6, hs6, hsa6, hp6, hc6, hk6⟩
            have HSX6 := Lib.hid (HSX5.out.rec HG.out hpp hk6 hs6 hp6 hc6)
            have HI6 := Lib.hid hsa6
            clear hSt HSX5 hpp hs6 hsa6 hp6 hc6 hk6 hroom
            go_wp2_with fail
            obtain ⟨g, hSt⟩ := HSX6.out.1
            refine (unmap_8_32 T n tb tx tc sb so sc sa6 _ HG.out.hn (by omega) hsc HG.out.ts hSt.t hSt.s (by omega) (fun x hx => HI6.out.val x hx)).mono ?_
            rintro e w1 ⟨rfl, sa7, hs7, hu7, hk7⟩
            have HSX7 := Lib.hid (HSX6.out.arr HG.out hk7 hs7)
            have HSR := Lib.hid (Srt.of_rec HFi.out (fun p hp => by
              obtain ⟨q, hq, e, e1, e2, e3⟩ := HRR.out (idx T n p) (idx_lt hp)
              have := idx_inj hq hp e
              subst this
              show (sa5 (n - nLMS T n + idx T n q)).toNat + 1 = name T n q
              rw [e1]; omega) HI6.out hu7)
            clear hSt HSX6 hs7 hu7 hk7 HI6 HRR HMF
            go_wp2
            go_meet
            exact ⟨_, rfl, HSX7, HSR⟩
          · have hmx' : ¬ ((nameSeq T n (nLMS T n - 1) : Nat) : Int) < ((nLMS T n : Nat) : Int) := by omega
            have x1 : n - (n - nLMS T n) = nLMS T n := by omega
            have x2 : ((n : Int) - ((nLMS T n : Nat) : Int)).toNat = n - nLMS T n := by omega
            have x3 : (0 : Int) ≤ (n : Int) - ((nLMS T n : Nat) : Int) := by omega
            have x4 : (n : Int) - ((nLMS T n : Nat) : Int) ≤ (n : Int) := by omega
            have x5 : (n : Int) - ((nLMS T n : Nat) : Int) ≤ (sc : Int) := by omega
            have x6 : ¬ sc = n - nLMS T n := by omega
            obtain ⟨g, hSt⟩ := HSX.out.1
            obtain ⟨w5, hcp, hs5, hk5⟩ := run_copy_top (P := Tryd.prog) _ 43 21 Tryd.underlying43 Tryd.size21 (c := sc) (c2 := sc - (n - nLMS T n)) (by omega : 2 * nLMS T n ≤ n) hSt.s
            have HSX5 := Lib.hid (HSX.out.arr HG.out (hk5.mono fun _ _ _ hh => ⟨hh.1, hh.2.1, by have := hh.2.2; omega⟩) hs5)
            have HSR := Lib.hid (Srt.of_top HFi.out HTop.out (by omega) (by omega) (sb := fun x => if x < nLMS T n then sa4 (n - nLMS T n + x) else sa4 x) (fun x hx => by
              have h1 := HA.out.top x hx
              obtain ⟨h2, h3⟩ := rho_spec HFi.out hx
              have h4 := HTop.out.a _ h2
              rw [h3] at h4
              simp only [hx, if_true]
              rw [h1, h4]))
            clear hSt HSX hs5 hk5
            go_wp2
            go_meet
            exact ⟨_, rfl, HSX5, HSR⟩
        case rest =>
          clear HTop HA HSX
          obtain ⟨sa5, rfl, HSX, HSR⟩ := hcut
          go_wp2_with fail
          obtain ⟨g, hSt⟩ := HSX.out.1
          refine (expand_8_32 T n tb tx tc sb so sc pb po fm pb (po + fm) bc fv _ g _ HG.out.lay hbc hSt HSR.out (by omega)).mono ?_
          intro e w1 hpost
          obtain ⟨rfl, sa1, hSX1, hR⟩ := HSX.out.post HG.out hpost
          clear hpost hSt HSX
          have HSX := Lib.hid hSX1; clear hSX1
          have HLd := Lib.hid hR; clear hR

          go_wp2
          go_meet
          exact ⟨_, HSX, HLd⟩

      · have hm1' : ((nLMS T n : Nat) : Int) ≤ 1 := by omega
        have HLd := Lib.hid (HR1.out.2 (by omega))
        go_wp2
        go_meet
        exact ⟨_, HSX, HLd⟩
    case rest =>
      clear HR1 HSX HZ
      obtain ⟨sa2, HSX, HLd⟩ := hcut
      go_wp2_with fail
      obtain ⟨g, hSt⟩ := HSX.out.1
      refine (induceL_8_32 T n tb tx tc sb so sc pb po fm pb (po + fm) bc fv _ g _ HG.out.lay hbc hSt HG.out.n2 HLd.out).mono ?_
      intro e w1 hpost
      obtain ⟨rfl, sa1, hSX1, hR⟩ := HSX.out.post HG.out hpost
      clear hpost hSt HSX
      have HSX := Lib.hid hSX1; clear hSX1
      obtain ⟨P0, hI⟩ := hR

      go_wp2_with fail
      obtain ⟨g, hSt⟩ := HSX.out.1
      refine (induceS_8_32 T n tb tx tc sb so sc pb po fm pb (po + fm) bc fv _ g _ HG.out.lay hbc hSt HG.out.n2 P0 hI).mono ?_
      intro e w1 hpost
      obtain ⟨rfl, sa1, hSX1, hR⟩ := HSX.out.post HG.out hpost
      clear hpost hSt HSX
      have HSX := Lib.hid hSX1; clear hSX1
      have HSA := Lib.hid hR; clear hR hI HLd

      obtain ⟨v0, hc0, hf0⟩ := HSX.out.cell0 HG.out
      have hpn0 : (0 : Int) < (pn : Int) := by have := HG.out.room; have := HG.out.M0; omega
      have HE := Lib.hid (HSX.out.end HG.out HSA.out)
      clear HSX HSA
      go_wp2
      go_end0
      exact HE.out

end Go.Proofs.YtoebcbmkkhbldaaDoor

/- The walks over text_32. -/
set_option linter.unusedVariables false
namespace Go.Proofs.YtoebcbmkkhbldaaDoor
open Go.RowKit Go.Mem Sais
set_option maxRecDepth 100000


theorem S32_all (n : Nat) : S32 n := Nat.strongRecOn n fun n ih => sais_32_step n ih

def TextPost (T : Nat → Nat) (n sb so : Nat) (w : World) (e : Ending) (w' : World) : Prop :=
  e = .returned (.tuple #[]) ∧ ∃ sa' : Nat → Int, Hold .i32 w' sb so n sa' ∧ IsSA T n sa' ∧ Kept (In sb so n) w w'

theorem sais_8_32_zero (tv pv : Value) (a b : Option Addr) (tc sc pn pc : Nat) (po : Option Addr) (w : World) (hpn : 256 ≤ pn) (hpn2 : pn ≤ 1073741824) :
    Calls Tryd.prog 20 #[.slice a 0 tc, .int .i64 256, .slice b 0 sc, .slice po pn pc] w fun e w' => e = .returned (.tuple #[]) ∧ w = w' := by
  have y4 : ¬ (pn : Int) < (256 : Int) := by omega
  go_enter Tryd.func20, Tryd.ntmps20
  go_wp2
  refine bodyPost_ret (results_none rfl _ _ _) rfl ?_
  exact ⟨rfl, rfl⟩
theorem sais_8_32_one (a : Option Addr) (tc sb so sc pn pc : Nat) (v : Int) (po : Option Addr) (w : World) (hpn : 256 ≤ pn) (hpn2 : pn ≤ 1073741824) (hc : w.cell? ⟨sb, so, none⟩ = some (.int .i32 v)) (hf : w.frozen? ⟨sb, so, none⟩ = false) :
    Calls Tryd.prog 20 #[.slice a 1 tc, .int .i64 256, .slice (some ⟨sb, so, none⟩) 1 sc, .slice po pn pc] w fun e w' => e = .returned (.tuple #[]) ∧ w' = w.setCell ⟨sb, so, none⟩ (.int .i32 0) := by
  have y4 : ¬ (pn : Int) < (256 : Int) := by omega
  go_enter Tryd.func20, Tryd.ntmps20
  go_wp2
  refine bodyPost_ret (results_none rfl _ _ _) rfl ?_
  exact ⟨rfl, rfl⟩

set_option maxHeartbeats 4000000 in
theorem text_32_zero (a b : Option Addr) (tc sc : Nat) (w : World) :
    Calls Tryd.prog 10 #[.slice a 0 tc, .slice b 0 sc] w fun e w' => e = .returned (.tuple #[]) ∧ w' = w.alloc (.cells (madeCells #[.int .i32 0] 512) 21) := by
  have hmk : ∀ u : World, (Instr.makeSlice 43 (.int .i64 512) (.int .i64 512)).run Tryd.prog u = .ok (.slice (some ⟨u.heap.size, 0, none⟩) 512 512) (u.alloc (.cells (madeCells #[.int .i32 0] 512) 21)) := fun u => Tryd.make32 u 512 (by omega)
  go_enter Tryd.func10, Tryd.ntmps10
  go_wp2_with (go_at_call 20; refine (sais_8_32_zero (.bool true) (.bool true) _ _ _ _ _ _ _ _ (by omega) (by omega)).mono ?_; rintro e w' ⟨rfl, rfl⟩)
  go_end0
  exact ⟨rfl, rfl⟩
set_option maxHeartbeats 4000000 in
theorem text_32_one (a : Option Addr) (tc sb so sc : Nat) (v : Int) (w : World) (hc : w.cell? ⟨sb, so, none⟩ = some (.int .i32 v)) (hf : w.frozen? ⟨sb, so, none⟩ = false) :
    Calls Tryd.prog 10 #[.slice a 1 tc, .slice (some ⟨sb, so, none⟩) 1 sc] w fun e w' => e = .returned (.tuple #[]) ∧ w' = (w.setCell ⟨sb, so, none⟩ (.int .i32 0)).alloc (.cells (madeCells #[.int .i32 0] 512) 21) := by
  have hb := World.block_lt_of_cell? w _ hc
  have hc2 : (w.alloc (.cells (madeCells #[.int .i32 0] 512) 21)).cell? ⟨sb, so, none⟩ = some (.int .i32 v) := by rw [World.cell?_alloc_lt _ _ _ hb]; exact hc
  have hf2 : (w.alloc (.cells (madeCells #[.int .i32 0] 512) 21)).frozen? ⟨sb, so, none⟩ = false := by rw [World.frozen?_alloc_old _ _ _ (Nat.ne_of_lt hb)]; exact hf
  have HC := Lib.hid (fun pc po => sais_8_32_one a tc sb so sc 512 pc v po _ (by omega) (by omega) hc2 hf2)
  clear hc hf hc2 hf2
  have hmk : ∀ u : World, (Instr.makeSlice 43 (.int .i64 512) (.int .i64 512)).run Tryd.prog u = .ok (.slice (some ⟨u.heap.size, 0, none⟩) 512 512) (u.alloc (.cells (madeCells #[.int .i32 0] 512) 21)) := fun u => Tryd.make32 u 512 (by omega)
  go_enter Tryd.func10, Tryd.ntmps10
  go_wp2_with (go_at_call 20; refine (HC.out _ _).mono ?_; rintro e w' ⟨rfl, rfl⟩)
  go_end0
  exact ⟨rfl, rfl⟩
set_option maxHeartbeats 4000000 in
theorem text_32_two (T : Nat → Nat) (n tb tx tc sb so sc : Nat) (sa : Nat → Int) (w : World) (hn2 : 2 ≤ n) (hn : n ≤ 1073741824) (hT : ∀ i, i < n → T i < 256) (hsc : n ≤ sc) (htc : n ≤ tc)
    (hts : Apart tb tx n sb so n) (ht : Rd .u8 w tb tx n (fun i => (T i : Int))) (hs : Hold .i32 w sb so n sa) (hz : ∀ x, x < n → sa x = 0) :
    Calls Tryd.prog 10 #[.slice (some ⟨tb, tx, none⟩) n tc, .slice (some ⟨sb, so, none⟩) n sc] w (TextPost T n sb so w) := by
  have h1 := ht.lt (by omega)
  have h2 := hs.lt (by omega)
  have hk : Kept (fun _ _ => False) w (w.alloc (.cells (madeCells #[.int .i32 0] 512) 21)) := (Kept.refl _ w).alloc _
  have HC := Lib.hid (sais_8_32 S32_all T n tb tx tc sb so sc w.heap.size 0 512 512 sa _ _ hn2 hn hT (by omega) (by omega) (by omega) hsc htc hts (.inl (by omega)) (.inl (by omega)) (ht.kept hk fun _ _ h => h) (hs.kept hk fun _ _ h => h) hz (Hold.made .i32 w 21 512))
  have HE : Hid (∀ e w', SaisPost T n sb so w.heap.size 0 512 (w.alloc (.cells (madeCells #[.int .i32 0] 512) 21)) e w' → TextPost T n sb so w e w') := fun e w' ⟨he, sa', p', a, b, c, d, k⟩ =>
    ⟨he, sa', a, b, (hk.mono fun _ _ _ h => h.elim).trans' k fun x o hx hh => by
      rcases hh with hh | hh
      · exact hh
      · have := hh.1; omega⟩
  clear ht hs hz hk hT
  have hmk : ∀ u : World, (Instr.makeSlice 43 (.int .i64 512) (.int .i64 512)).run Tryd.prog u = .ok (.slice (some ⟨u.heap.size, 0, none⟩) 512 512) (u.alloc (.cells (madeCells #[.int .i32 0] 512) 21)) := fun u => Tryd.make32 u 512 (by omega)
  have y1 : ((n : Int) != (n : Int)) = false := by simp
  go_enter Tryd.func10, Tryd.ntmps10
  go_wp2_with (go_at_call 20; refine HC.out.mono ?_; intro e w' hpost; have HPO := Lib.hid (HE.out _ _ hpost); obtain ⟨rfl, hpost⟩ := hpost; clear hpost)
  go_end0
  exact HPO.out

theorem IsSA.zero (T : Nat → Nat) (f : Nat → Int) : IsSA T 0 f := ⟨fun k hk => by omega, fun x hx => by omega, fun x y _ _ _ hy => by omega⟩
theorem IsSA.one (T : Nat → Nat) {f : Nat → Int} (h : f 0 = 0) : IsSA T 1 f :=
  ⟨fun k hk => ⟨0, by omega, by rw [h, show k = 0 by omega]; rfl⟩, fun x hx => ⟨0, by omega, by rw [show x = 0 by omega, h]; rfl⟩, fun x y _ _ hxy hy => by omega⟩

/-- What is known of a slice of bytes that is to be sorted: of length 0, or its cells. -/
def TextV (T : Nat → Nat) (n : Nat) (w : World) (tv : Value) (tb tx tc : Nat) : Prop :=
  (n = 0 ∧ ∃ a c, tv = .slice a 0 c) ∨ (tv = .slice (some ⟨tb, tx, none⟩) n tc ∧ n ≤ tc ∧ Rd .u8 w tb tx n (fun i => (T i : Int)))

/-- THE CONTRACT of text_32. -/
theorem text_32 (T : Nat → Nat) (n tb tx tc sb so sc : Nat) (tv : Value) (sa : Nat → Int) (w : World) (hn : n ≤ 1073741824) (hT : ∀ i, i < n → T i < 256) (hsc : n ≤ sc)
    (hts : Apart tb tx n sb so n) (ht : TextV T n w tv tb tx tc) (hs : Hold .i32 w sb so n sa) (hz : ∀ x, x < n → sa x = 0) :
    Calls Tryd.prog 10 #[tv, .slice (some ⟨sb, so, none⟩) n sc] w (TextPost T n sb so w) := by
  rcases ht with ⟨rfl, a, c, rfl⟩ | ⟨rfl, htc, ht⟩
  · refine (text_32_zero a _ c sc w).mono fun e w' ⟨he, hw⟩ => ?_
    subst hw
    exact ⟨he, sa, fun j hj => by omega, IsSA.zero T sa, (Kept.refl _ w).alloc _⟩
  · by_cases h0 : n = 0
    · subst h0
      refine (text_32_zero _ _ tc sc w).mono fun e w' ⟨he, hw⟩ => ?_
      subst hw
      exact ⟨he, sa, fun j hj => by omega, IsSA.zero T sa, (Kept.refl _ w).alloc _⟩
    · by_cases h1 : n = 1
      · subst h1
        obtain ⟨hc, hf⟩ := hs 0 (by omega)
        rw [Nat.add_zero] at hc hf
        refine (text_32_one _ tc sb so sc _ w hc hf).mono fun e w' ⟨he, hw⟩ => ?_
        subst hw
        have h2 := hs.set (i := 0) (by omega) 0
        have h3 := (Kept.refl (In sb so 1) w).set (b := sb) (o := so + 0) (.int .i32 0) ⟨rfl, by omega, by omega⟩
        rw [Nat.add_zero] at h2 h3
        exact ⟨he, _, h2.kept ((Kept.refl (fun _ _ => False) _).alloc _) (fun _ _ h => h), IsSA.one T (upd_same _ _ _), h3.alloc _⟩
      · exact text_32_two T n tb tx tc sb so sc sa w (by omega) hn hT hsc htc hts ht hs hz

end Go.Proofs.YtoebcbmkkhbldaaDoor
