/- (*Index).Read: the loop's beginning and end. -/
import Derived.Test.YtoebcbmkkhbldaaDoorQRdx
set_option linter.unusedVariables false
namespace Go.Proofs.YtoebcbmkkhbldaaDoor
open Go.RowKit Go.Mem Sais Go.Lib Go.Wire
set_option maxRecDepth 100000

theorem rx_start {t : TypeId} {rp : Option Addr} {F : Nat} {RS : List UInt8 → World → Prop} {D : Nat → Prop} (R : Rdr t rp F RS D) {rest b : List UInt8} {n k sb c : Nat} {sa f0 : Nat → Int} {w3 : World} (hn : n ≤ 1073741824) (hS : RS (chunks (first n) (numsOf sa n) ++ rest) w3) (hB : By w3 k 0 b) (hb : b.length = 16384) (hf0 : Hold .i32 w3 sb 0 c f0) :
    RxRel RS D rest (numsOf sa n) k w3.heap.size sb c f0 w3 (w3.alloc (.cells #[.slice (some ⟨sb, 0, none⟩) n c, .slice none 0 0] 46)) := by
  have hka : Grew w3 (w3.alloc (.cells #[.slice (some ⟨sb, 0, none⟩) n c, .slice none 0 0] 46)) := (Kept.refl _ w3).alloc _
  refine ⟨0, 0, first n, b, Nat.zero_le _, (fun _ => rfl), ?_, ?_, ?_, ?_, R.kept hS hka (fun _ _ _ h => h), first_len hn, ⟨hB.kept hka fun _ _ h => h, hb⟩, (hf0.kept hka fun _ _ h => h).congr fun j _ => if_neg (by omega), (Kept.refl _ _).trans' hka fun _ _ _ h => h.elim⟩
  · rw [World.cell?_alloc_new, numsOf_len]; rfl
  · rw [World.cell?_alloc_new]; rfl
  · rw [World.frozen?_alloc_new]
  · rw [World.frozen?_alloc_new]
theorem rx_end {t : TypeId} {rp : Option Addr} {F : Nat} {RS : List UInt8 → World → Prop} {D : Nat → Prop} (R : Rdr t rp F RS D) {rest : List UInt8} {xb tb sb tb' sb' c' n q : Nat} {d' : Option Addr} {T : Nat → Nat} {sa f0 : Nat → Int} {w w3 wr : World} (hn : n ≤ 1073741824) (hHI : IsSA T n sa) (hHT : ∀ i, i < n → T i < 256) (hOx : Own w3 xb tb' sb' c' n d') (hHB3 : By w3 tb' 0 (bts T n)) (hHKw : Kept (OX D xb tb sb) w w3) (hHWH : tb' = tb ∧ sb' = sb ∨ w.heap.size < tb' ∧ w.heap.size < sb') (hDx : ¬ D xb) (hDt : ¬ D tb') (hDs : ¬ D sb')
    (hkt : w.heap.size ≠ tb') (hks : w.heap.size ≠ sb') (hkx : xb ≠ w.heap.size) (hkc3 : w.heap.size < w3.heap.size) (hr : RxRel RS D rest (numsOf sa n) w.heap.size w3.heap.size sb' c' f0 w3 wr) (hle : lenAt wr ⟨w3.heap.size, 0, none⟩ = 0) : IrPost RS D rest xb tb sb n T sa w (.returned .nilIface) (wr.drewN q) := by
  have hlN := numsOf_len sa n
  obtain ⟨i, so', h, b', hi, _, h1, _, _, _, h2, _, _, h3, h4⟩ := hr
  rw [lenAt_eq h1] at hle
  have hin : i = n := by rw [hlN] at hi hle; omega
  rw [hin] at h2 h3
  have hxa : xb ≠ w3.heap.size := Nat.ne_of_lt hOx.lx
  have hnx : ∀ x, x < w3.heap.size → ¬ D x → x ≠ w.heap.size → x ≠ sb' → ∀ o : Nat, ¬ (D x ∨ x = w.heap.size ∨ x = w3.heap.size ∨ x = sb') := fun x hx hd h1 h2 o hh => by
    rcases hh with hh | hh | hh | hh
    · exact hd hh
    · exact h1 hh
    · omega
    · exact h2 hh
  have h4q := h4.out.drewN q
  have hx0 := hnx xb hOx.lx hDx hkx hOx.n2
  have g0 := (h4q.cell xb 0 hOx.lx (hx0 0)).trans hOx.c0
  have g1 := (h4q.cell xb 1 hOx.lx (hx0 1)).trans hOx.c1
  have g2 := (h4q.cell xb 2 hOx.lx (hx0 2)).trans hOx.c2
  have hnums : ∀ j, j < n → (((numsOf sa n).getD j 0 : Nat) : Int) = sa j := fun j hj => by
    have := hHI.lt hj
    have hx : (numsOf sa n).getD j 0 = (sa j).toNat := by simp [numsOf, hj]
    rw [hx]; omega
  have hRd : Rd .i32 (wr.drewN q) sb' 0 n sa := fun j hj => by
    have h5 := (h3.out j (by have := hOx.nc; omega)).1
    dsimp only at h5
    rw [if_pos hj, hnums j hj] at h5
    exact h5
  have hBT : 0 < c' → By (wr.drewN q) tb' 0 (bts T n) := fun hc => hHB3.kept h4q fun j hj => hnx tb' hOx.lt hDt (fun e => hkt e.symm) (hOx.n3 hc) 0
  obtain ⟨f, hf, hfl⟩ := hOx.ht
  refine ⟨rfl, tb', sb', c', d', ⟨g0, g1, g2, fun o ho => (h4q.frozen xb o hOx.lx).trans (hOx.f o ho), hOx.hd, ?_, ⟨_, h3.out⟩, hOx.nc, hOx.cb, Nat.lt_of_lt_of_le hOx.lx h4q.size, Nat.lt_of_lt_of_le hOx.lt h4q.size, Nat.lt_of_lt_of_le hOx.ls h4q.size, hOx.n1, hOx.n2, hOx.n3⟩, ⟨g0, g1, g2, hn, hHT, hOx.nc, ?_, hRd, hHI⟩, ?_, ?_, hHWH⟩
  · by_cases hc : 0 < c'
    · exact ⟨f, hf.kept h4q fun j hj => hnx tb' hOx.lt hDt (fun e => hkt e.symm) (hOx.n3 hc) 0, hfl⟩
    · exact ⟨f, fun j hj => by omega, hfl⟩
  · by_cases hc : 0 < c'
    · refine .inr ⟨?_, hOx.nc, fun j hj => ?_⟩
      · rcases hOx.hd with e | ⟨_, e⟩
        · rw [e]
        · omega
      · have h6 := (hBT hc j (by rw [bts_len]; exact hj)).1
        rwa [bf_bts hHT hj] at h6
    · have := hOx.nc
      obtain rfl : n = 0 := by omega
      exact .inl ⟨rfl, d', c', rfl⟩
  · rw [List.drop_of_length_le (by omega), chunks_nil, List.nil_append] at h2
    exact R.kept h2.out ((Kept.refl (fun _ _ => False) wr).drewN q) fun _ _ _ h => h
  · refine hHKw.trans' h4q fun x o hx hh => ?_
    rcases hh with hh | hh | hh | hh
    · exact .inl hh
    · omega
    · omega
    · rcases hHWH with ⟨_, e⟩ | ⟨_, e⟩
      · exact .inr (.inr (.inr (hh.trans e)))
      · omega
end Go.Proofs.YtoebcbmkkhbldaaDoor
