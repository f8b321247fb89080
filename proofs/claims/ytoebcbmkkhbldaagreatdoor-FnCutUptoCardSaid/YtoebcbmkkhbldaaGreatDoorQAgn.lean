/- impl.Again, FnAgain. -/
import Derived.Test.YtoebcbmkkhbldaaGreatDoorQRst
set_option linter.unusedVariables false
namespace Go.Proofs.YtoebcbmkkhbldaaGreatDoor
open Go.RowKit Go.Mem Sais Go.Lib Go.Wire
set_option maxRecDepth 100000

theorem sa_key {T : Nat → Nat} {n x a b : Nat} {sa sb : Nat → Int} (h : IsSA T n sa) (k : IsSA T n sb) (hx : x < n) (ih : ∀ y, y < x → sa y = sb y) (ea : sa x = (a : Nat)) (ha : a < n) (eb : sb x = (b : Nat)) (ne : a ≠ b) : ll (suf T n b) (suf T n a) := by
  obtain ⟨p, hp, ep⟩ := k.all a ha
  have hpx : p ≠ x := by intro e; subst e; rw [eb] at ep; exact ne (by omega)
  rcases Nat.lt_or_ge p x with h1 | h1
  · have h2 := ih p h1
    rw [ep] at h2
    exact (ll_irrefl _ (h.sorted p x a a h1 hx h2 ea)).elim
  · exact k.sorted x p b a (by omega) hp eb ep
/-- There is one suffix array. -/
theorem sa_uniq {T : Nat → Nat} {n : Nat} {sa sb : Nat → Int} (h : IsSA T n sa) (k : IsSA T n sb) : ∀ x, x < n → sa x = sb x := by
  intro x
  induction x using Nat.strongRecOn with
  | ind x ih =>
    intro hx
    obtain ⟨a, ha, ea⟩ := h.val x hx
    obtain ⟨b, hb, eb⟩ := k.val x hx
    have ih' : ∀ y, y < x → sa y = sb y := fun y hy => ih y hy (by omega)
    by_cases e : a = b
    · rw [ea, eb, e]
    · exact (ll_asymm (sa_key h k hx ih' ea ha eb e) (sa_key k h hx (fun y hy => (ih' y hy).symm) eb hb ea (Ne.symm e))).elim
theorem wireS_uniq {s : ByteArray} {sa sb : Nat → Int} (h : IsSA (chr s) s.size sa) (k : IsSA (chr s) s.size sb) : wireS s sa = wireS s sb := by
  have e : numsOf sa s.size = numsOf sb s.size := List.map_congr_left fun j hj => by rw [sa_uniq h k j (by simpa using hj)]
  unfold wireS; rw [e]
end Go.Proofs.YtoebcbmkkhbldaaGreatDoor
