/- bytes.NewBufferString, New(nil). -/
import Derived.Test.YtoebcbmkkhbldaaDoorQWtn
import Derived.Test.YtoebcbmkkhbldaaDoorQRdx
set_option linter.unusedVariables false
namespace Go.Proofs.YtoebcbmkkhbldaaDoor
open Go.RowKit Go.Mem Sais Go.Lib Go.Wire
set_option maxRecDepth 100000

def NewPost2 (T : Nat → Nat) (n : Nat) (dv : Value) (tb tx tc : Nat) (w : World) (e : Ending) (w' : World) : Prop :=
  ∃ (xb sb : Nat) (sa : Nat → Int), e = .returned (.pointer (some ⟨xb, 0, none⟩)) ∧ Ix w' xb T n dv tb tx tc sb 0 n sa ∧ w.heap.size ≤ xb ∧ w.heap.size ≤ sb ∧ xb ≠ sb ∧ Grew w w' ∧
    (∀ o, o < 3 → w'.frozen? ⟨xb, o, none⟩ = false) ∧ Hold .i32 w' sb 0 n sa ∧ sb < w'.heap.size
set_option maxHeartbeats 4000000 in
theorem new_ix2 (T : Nat → Nat) (n tb tx tc : Nat) (dv : Value) (d : Option Addr) (w : World) (hn : n ≤ 1073741824) (hT : ∀ i, i < n → T i < 256) (hd : dv = .slice d n tc) (ht : TextV T n w dv tb tx tc) (hmax : MaxIs w) :
    Calls Tryd.prog 5 #[dv] w (NewPost2 T n dv tb tx tc w) := by
  subst hd
  have hg : w.cell? ⟨0, 0, none⟩ = some (.int .i64 2147483647) := hmax
  have hb := World.block_lt_of_cell? w _ hg
  have hb' : 0 ≠ w.heap.size := Nat.ne_of_lt hb
  have HT := Lib.hid ht; clear ht
  have HTT := Lib.hid hT; clear hT
  clear hmax
  have hmk := fun u => Tryd.make32 u n hn
  go_enter Tryd.func5, Tryd.ntmps5
  go_wp2_with fail
  have hk1 : Grew w (w.alloc (.cells #[.slice d n tc, .slice (some ⟨w.heap.size + 1, 0, none⟩) n n, .slice none 0 0] 48)) := (Kept.refl _ w).alloc _
  have hH := Hold.made .i32 (w.alloc (.cells #[.slice d n tc, .slice (some ⟨w.heap.size + 1, 0, none⟩) n n, .slice none 0 0] 48)) 21 n
  rw [World.size_alloc] at hH
  have hk2 := hk1.alloc (.cells (madeCells #[.int .i32 0] n) 21)
  have hts : Apart tb tx n (w.heap.size + 1) 0 n := by
    by_cases h0 : n = 0
    · exact .inr (.inr (by omega))
    · rcases HT.out with ⟨h, _⟩ | ⟨_, _, h⟩
      · omega
      · exact .inl (by have := h.lt (by omega); omega)
  have hcells : ∀ (o : Nat) (v : Value), #[Value.slice d n tc, .slice (some ⟨w.heap.size + 1, 0, none⟩) n n, .slice none 0 0][o]? = some v → ((w.alloc (.cells #[.slice d n tc, .slice (some ⟨w.heap.size + 1, 0, none⟩) n n, .slice none 0 0] 48)).alloc (.cells (madeCells #[.int .i32 0] n) 21)).cell? ⟨w.heap.size, o, none⟩ = some v := fun o v hv => by
    rw [World.cell?_alloc_lt _ _ _ (by simp), World.cell?_alloc_new]
    exact hv
  have hfro : ∀ (o : Nat), ((w.alloc (.cells #[.slice d n tc, .slice (some ⟨w.heap.size + 1, 0, none⟩) n n, .slice none 0 0] 48)).alloc (.cells (madeCells #[.int .i32 0] n) 21)).frozen? ⟨w.heap.size, o, none⟩ = false := fun o => by
    rw [World.frozen?_alloc_old _ _ _ (by simp), World.frozen?_alloc_new]
  have hsz : ((w.alloc (.cells #[.slice d n tc, .slice (some ⟨w.heap.size + 1, 0, none⟩) n n, .slice none 0 0] 48)).alloc (.cells (madeCells #[.int .i32 0] n) 21)).heap.size = w.heap.size + 2 := by simp
  have hcall := text_32 T n tb tx tc (w.heap.size + 1) 0 n (.slice d n tc) (fun _ => 0) _ hn HTT.out (Nat.le_refl _) hts (HT.out.kept hk2 fun _ _ h => h) hH (fun _ _ => rfl)
  refine hcall.mono ?_
  intro e w' hpost
  have HN : Hid (NewPost2 T n (.slice d n tc) tb tx tc w (.returned (.pointer (some ⟨w.heap.size, 0, none⟩))) w') := by
    obtain ⟨_, sa', h1, h2, h3⟩ := hpost
    have hout : ∀ o, ¬ In (w.heap.size + 1) 0 n w.heap.size o := fun o h => by have := h.1; omega
    have hcell : ∀ (o : Nat) (v : Value), #[Value.slice d n tc, .slice (some ⟨w.heap.size + 1, 0, none⟩) n n, .slice none 0 0][o]? = some v → w'.cell? ⟨w.heap.size, o, none⟩ = some v := fun o v hv => by
      rw [h3.cell _ o (by rw [hsz]; omega) (hout o)]; exact hcells o v hv
    refine ⟨w.heap.size, w.heap.size + 1, sa', rfl, ⟨hcell 0 _ rfl, hcell 1 _ rfl, hcell 2 _ rfl, hn, HTT.out, Nat.le_refl _, (HT.out.kept hk2 fun _ _ h => h).kept h3 fun j hj hh => hts.out hj hh, h1.rd, h2⟩, Nat.le_refl _, by omega, by omega, hk2.trans' h3 fun x o hx hh => by have := hh.1; omega, fun o _ => ?_, h1, by have := h3.size; rw [hsz] at this; omega⟩
    rw [h3.frozen _ o (by rw [hsz]; omega)]; exact hfro o
  obtain ⟨rfl, hpost⟩ := hpost
  clear hpost hcall hH hk1 hk2 hts hcells hfro hsz
  go_wp2
  go_ret
  exact HN.out
def NbPost (s : ByteArray) (w : World) (e : Ending) (w' : World) : Prop := ∃ b q, e = .returned (.pointer (some ⟨b, 0, none⟩)) ∧ RB b q s.data.toList w' ∧ Grew w w' ∧ w.heap.size ≤ b ∧ w.heap.size ≤ q
/-- New(nil): an index of nothing. -/
def NnPost (w : World) (e : Ending) (w' : World) : Prop := ∃ xb sb, e = .returned (.pointer (some ⟨xb, 0, none⟩)) ∧ Own w' xb sb sb 0 0 none ∧ w.heap.size ≤ xb ∧ w.heap.size ≤ sb ∧ Grew w w'
theorem new_nil (w : World) (hmax : MaxIs w) : Calls Tryd.prog 5 #[.slice none 0 0] w (NnPost w) := by
  refine (new_ix2 (fun _ => 0) 0 0 0 0 (.slice none 0 0) none w (by omega) (fun _ h => by omega) rfl (.inl ⟨rfl, none, 0, rfl⟩) hmax).mono ?_
  rintro e w' ⟨xb, sb, sa, rfl, hI, h1, h2, h3, h4, h5, h6, h7⟩
  have hx := World.block_lt_of_cell? w' _ hI.c0
  exact ⟨xb, sb, rfl, ⟨hI.c0, hI.c1, hI.c2, h5, .inr ⟨rfl, rfl⟩, ⟨[], fun j hj => by omega, rfl⟩, ⟨sa, h6⟩, Nat.le_refl _, by omega, hx, h7, h7, h3, h3, fun h => by omega⟩, h1, h2, h4⟩
end Go.Proofs.YtoebcbmkkhbldaaDoor
