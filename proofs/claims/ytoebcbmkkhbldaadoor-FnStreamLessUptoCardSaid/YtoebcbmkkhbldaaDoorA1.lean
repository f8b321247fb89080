/- Texts in one: Cnt Ord Pass Pass2 Red Loops -/
/- Counting the numbers below a bound that meet a condition; a lexicographic order on lists of numbers. -/
namespace Sais
open Classical

noncomputable def cnt (p : Nat → Prop) : Nat → Nat
  | 0 => 0
  | n + 1 => cnt p n + (if p n then 1 else 0)

theorem cnt_zero (p : Nat → Prop) : cnt p 0 = 0 := rfl
theorem cnt_succ_pos {p : Nat → Prop} {n : Nat} (h : p n) : cnt p (n + 1) = cnt p n + 1 := by simp [cnt, h]
theorem cnt_succ_neg {p : Nat → Prop} {n : Nat} (h : ¬ p n) : cnt p (n + 1) = cnt p n := by simp [cnt, h]

theorem cnt_le (p : Nat → Prop) (n : Nat) : cnt p n ≤ n := by
  induction n with
  | zero => simp [cnt]
  | succ n ih => simp only [cnt]; split <;> omega

theorem cnt_congr {p q : Nat → Prop} {n : Nat} (h : ∀ i, i < n → (p i ↔ q i)) : cnt p n = cnt q n := by
  induction n with
  | zero => rfl
  | succ n ih =>
    have h1 := ih fun i hi => h i (by omega)
    have h2 := h n (by omega)
    simp only [cnt, h1, h2]

theorem cnt_mono {p q : Nat → Prop} {n : Nat} (h : ∀ i, i < n → p i → q i) : cnt p n ≤ cnt q n := by
  induction n with
  | zero => simp [cnt]
  | succ n ih =>
    have h1 := ih fun i hi => h i (by omega)
    have h2 := h n (by omega)
    simp only [cnt]
    by_cases hp : p n
    · simp only [hp, h2 hp, if_true]; omega
    · simp only [hp, if_false]; split <;> omega

theorem cnt_mono_n {p : Nat → Prop} {m n : Nat} (h : m ≤ n) : cnt p m ≤ cnt p n := by
  induction n with
  | zero => have : m = 0 := by omega
            subst this; exact Nat.le_refl _
  | succ n ih =>
    by_cases e : m = n + 1
    · subst e; exact Nat.le_refl _
    · have := ih (by omega)
      simp only [cnt]; omega

theorem cnt_lt_n {p : Nat → Prop} {m n a : Nat} (h1 : m ≤ a) (h2 : a < n) (hp : p a) : cnt p m < cnt p n := by
  have h3 : cnt p m ≤ cnt p a := cnt_mono_n h1
  have h4 : cnt p (a + 1) ≤ cnt p n := cnt_mono_n h2
  rw [cnt_succ_pos hp] at h4
  omega

theorem cnt_or {p q r : Nat → Prop} {n : Nat} (h : ∀ i, i < n → (r i ↔ p i ∨ q i)) (hd : ∀ i, i < n → ¬ (p i ∧ q i)) : cnt r n = cnt p n + cnt q n := by
  induction n with
  | zero => rfl
  | succ n ih =>
    have h1 := ih (fun i hi => h i (by omega)) (fun i hi => hd i (by omega))
    have h2 := h n (by omega)
    have h3 := hd n (by omega)
    simp only [cnt, h1]
    by_cases hp : p n <;> by_cases hq : q n <;> simp_all <;> omega

theorem cnt_false {p : Nat → Prop} {n : Nat} (h : ∀ i, i < n → ¬ p i) : cnt p n = 0 := by
  induction n with
  | zero => rfl
  | succ n ih => rw [cnt_succ_neg (h n (by omega))]; exact ih fun i hi => h i (by omega)

theorem cnt_true {p : Nat → Prop} {n : Nat} (h : ∀ i, i < n → p i) : cnt p n = n := by
  induction n with
  | zero => rfl
  | succ n ih => rw [cnt_succ_pos (h n (by omega)), ih fun i hi => h i (by omega)]

theorem cnt_one {n a : Nat} (h : a < n) : cnt (fun i => i = a) n = 1 := by
  induction n with
  | zero => omega
  | succ n ih =>
    by_cases e : a = n
    · subst e
      rw [cnt_succ_pos (p := fun i => i = a) rfl, cnt_false (fun i hi => by omega)]
    · rw [cnt_succ_neg (p := fun i => i = a) (fun hh => e hh.symm)]
      exact ih (by omega)

theorem cnt_insert {p q : Nat → Prop} {n a : Nat} (ha : a < n) (h : ∀ i, i < n → (q i ↔ p i ∨ i = a)) (hp : ¬ p a) : cnt q n = cnt p n + 1 := by
  rw [cnt_or (p := p) (q := fun i => i = a) h (fun i _ hh => hp (hh.2 ▸ hh.1)), cnt_one ha]

theorem cnt_lt {p q : Nat → Prop} {n a : Nat} (h : ∀ i, i < n → p i → q i) (ha : a < n) (hq : q a) (hp : ¬ p a) : cnt p n < cnt q n := by
  have h1 : cnt (fun i => p i ∨ i = a) n = cnt p n + 1 := cnt_insert ha (fun i _ => Iff.rfl) hp
  have h2 : cnt (fun i => p i ∨ i = a) n ≤ cnt q n := cnt_mono fun i hi hh => by
    rcases hh with hh | rfl
    · exact h i hi hh
    · exact hq
  omega

theorem cnt_pos {p : Nat → Prop} {n a : Nat} (ha : a < n) (hp : p a) : 0 < cnt p n := by
  have := cnt_lt (p := fun _ => False) (q := p) (n := n) (a := a) (fun _ _ h => h.elim) ha hp (fun h => h)
  omega

theorem cnt_ex {p : Nat → Prop} {n : Nat} (h : 0 < cnt p n) : ∃ a, a < n ∧ p a := by
  refine Classical.byContradiction fun hn => ?_
  rw [cnt_false (fun i hi hp => hn ⟨i, hi, hp⟩)] at h
  omega

theorem cnt_surj {p : Nat → Prop} {n r : Nat} (h : r < cnt p n) : ∃ a, a < n ∧ p a ∧ cnt p a = r := by
  induction n with
  | zero => simp [cnt] at h
  | succ n ih =>
    by_cases hp : p n
    · rw [cnt_succ_pos hp] at h
      by_cases e : r = cnt p n
      · exact ⟨n, by omega, hp, e.symm⟩
      · obtain ⟨a, h1, h2, h3⟩ := ih (by omega)
        exact ⟨a, by omega, h2, h3⟩
    · rw [cnt_succ_neg hp] at h
      obtain ⟨a, h1, h2, h3⟩ := ih h
      exact ⟨a, by omega, h2, h3⟩

/-- An injective map of the numbers below n into themselves meets each. -/
theorem inj_surj {n : Nat} (f : Nat → Nat) (hf : ∀ i, i < n → f i < n) (hi : ∀ i j, i < n → j < n → f i = f j → i = j) (x : Nat) (hx : x < n) : ∃ i, i < n ∧ f i = x := by
  have key : ∀ m, m ≤ n → cnt (fun y => ∃ i, i < m ∧ f i = y) n = m := by
    intro m
    induction m with
    | zero => intro _; exact cnt_false fun y _ ⟨i, h, _⟩ => by omega
    | succ m ih =>
      intro hm
      rw [cnt_insert (p := fun y => ∃ i, i < m ∧ f i = y) (a := f m) (hf m (by omega)), ih (by omega)]
      · intro y _
        constructor
        · rintro ⟨i, h1, h2⟩
          by_cases e : i = m
          · subst e; exact .inr h2.symm
          · exact .inl ⟨i, by omega, h2⟩
        · rintro (⟨i, h1, h2⟩ | rfl)
          · exact ⟨i, by omega, h2⟩
          · exact ⟨m, by omega, rfl⟩
      · rintro ⟨i, h1, h2⟩
        have := hi i m (by omega) (by omega) h2
        omega
  have h := key n (Nat.le_refl _)
  refine Classical.byContradiction fun hn => ?_
  have h2 := cnt_lt (p := fun y => ∃ i, i < n ∧ f i = y) (q := fun _ => True) (n := n) (a := x) (fun _ _ _ => trivial) hx trivial hn
  rw [h, cnt_true (fun _ _ => trivial)] at h2
  omega

/-- Lists of numbers, in the order of a dictionary. -/
def ll : List Nat → List Nat → Prop
  | _, [] => False
  | [], _ :: _ => True
  | a :: l, b :: m => a < b ∨ (a = b ∧ ll l m)

theorem ll_nil (l : List Nat) : ¬ ll l [] := by cases l <;> simp [ll]
theorem nil_ll (a : Nat) (l : List Nat) : ll [] (a :: l) := by simp [ll]
theorem ll_cons {a b : Nat} {l m : List Nat} : ll (a :: l) (b :: m) ↔ a < b ∨ (a = b ∧ ll l m) := by simp [ll]

theorem ll_irrefl (l : List Nat) : ¬ ll l l := by
  induction l with
  | nil => simp [ll]
  | cons a l ih => simp only [ll_cons]; intro h; rcases h with h | h; omega; exact ih h.2

theorem ll_trans : ∀ {l m r : List Nat}, ll l m → ll m r → ll l r
  | _, _, [], _, h2 => (ll_nil _ h2).elim
  | _, [], _ :: _, h1, _ => (ll_nil _ h1).elim
  | [], _ :: _, _ :: _, _, _ => nil_ll _ _
  | a :: l, b :: m, c :: r, h1, h2 => by
    rw [ll_cons] at *
    rcases h1 with h1 | ⟨rfl, h1⟩
    · rcases h2 with h2 | ⟨rfl, _⟩
      · exact .inl (by omega)
      · exact .inl h1
    · rcases h2 with h2 | ⟨rfl, h2⟩
      · exact .inl h2
      · exact .inr ⟨rfl, ll_trans h1 h2⟩

theorem ll_asymm {l m : List Nat} (h : ll l m) : ¬ ll m l := fun h2 => ll_irrefl _ (ll_trans h h2)

theorem ll_tri : ∀ (l m : List Nat), ll l m ∨ l = m ∨ ll m l
  | [], [] => .inr (.inl rfl)
  | [], _ :: _ => .inl (nil_ll _ _)
  | _ :: _, [] => .inr (.inr (nil_ll _ _))
  | a :: l, b :: m => by
    simp only [ll_cons]
    rcases Nat.lt_trichotomy a b with h | rfl | h
    · exact .inl (.inl h)
    · rcases ll_tri l m with h | rfl | h
      · exact .inl (.inr ⟨rfl, h⟩)
      · exact .inr (.inl rfl)
      · exact .inr (.inr (.inr ⟨rfl, h⟩))
    · exact .inr (.inr (.inl h))

/-- A function with one value changed. -/
def upd (f : Nat → Int) (i : Nat) (v : Int) : Nat → Int := fun j => if j = i then v else f j
theorem upd_same (f : Nat → Int) (i : Nat) (v : Int) : upd f i v i = v := by simp [upd]
theorem upd_other (f : Nat → Int) {i j : Nat} (v : Int) (h : j ≠ i) : upd f i v j = f j := by simp [upd, h]

end Sais

/- Types of places in a text (S and L), keys of places, and the slots at which induced sorting lays them. -/
set_option linter.unusedVariables false
namespace Sais
open Classical

section
variable (T : Nat → Nat) (n : Nat)

/-- Place i is of type S: the first other number behind it is greater. -/
def isS (i : Nat) : Prop := ∃ j, i < j ∧ j < n ∧ T i < T j ∧ ∀ m, i ≤ m → m < j → T m = T i

def LMS (p : Nat) : Prop := 0 < p ∧ p < n ∧ isS T n p ∧ ¬ isS T n (p - 1)

noncomputable def code (i : Nat) : Nat := 2 * T i + (if isS T n i then 1 else 0)

/-- How many places hold a number below c. -/
noncomputable def start (c : Nat) : Nat := cnt (fun i => T i < c) n

/-- A place's whole suffix, as codes. -/
noncomputable def kfullAux : Nat → Nat → List Nat
  | 0, _ => []
  | f + 1, i => code T n i :: kfullAux f (i + 1)
noncomputable def kfull (i : Nat) : List Nat := kfullAux T n (n - i) i

/-- A place's suffix, as numbers. -/
def sufAux : Nat → Nat → List Nat
  | 0, _ => []
  | f + 1, i => T i :: sufAux f (i + 1)
def suf (i : Nat) : List Nat := sufAux T (n - i) i
end

section
variable {T : Nat → Nat} {n : Nat}

theorem kfull_step {i : Nat} (h : i < n) : kfull T n i = code T n i :: kfull T n (i + 1) := by
  unfold kfull
  obtain ⟨d, hd⟩ : ∃ d, n - i = d + 1 := ⟨n - i - 1, by omega⟩
  rw [hd, show n - (i + 1) = d by omega]
  rfl
theorem kfull_end {i : Nat} (h : n ≤ i) : kfull T n i = [] := by
  unfold kfull
  rw [show n - i = 0 by omega]
  rfl
theorem suf_step {i : Nat} (h : i < n) : suf T n i = T i :: suf T n (i + 1) := by
  unfold suf
  obtain ⟨d, hd⟩ : ∃ d, n - i = d + 1 := ⟨n - i - 1, by omega⟩
  rw [hd, show n - (i + 1) = d by omega]
  rfl
theorem suf_end {i : Nat} (h : n ≤ i) : suf T n i = [] := by
  unfold suf
  rw [show n - i = 0 by omega]
  rfl

theorem isS_lt {i : Nat} (h : isS T n i) : i + 1 < n := by
  obtain ⟨j, h1, h2, _, _⟩ := h; omega

theorem isS_of_lt {i : Nat} (h : i + 1 < n) (hlt : T i < T (i + 1)) : isS T n i :=
  ⟨i + 1, by omega, h, hlt, fun m h1 h2 => by rw [show m = i by omega]⟩

theorem isS_of_eq {i : Nat} (he : T i = T (i + 1)) (hs : isS T n (i + 1)) : isS T n i := by
  obtain ⟨j, h1, h2, h3, h4⟩ := hs
  refine ⟨j, by omega, h2, by omega, fun m h5 h6 => ?_⟩
  by_cases e : m = i
  · rw [e]
  · rw [h4 m (by omega) h6, he]

theorem isS_step {i : Nat} : isS T n i ↔ i + 1 < n ∧ (T i < T (i + 1) ∨ (T i = T (i + 1) ∧ isS T n (i + 1))) := by
  constructor
  · intro h
    refine ⟨isS_lt h, ?_⟩
    obtain ⟨j, h1, h2, h3, h4⟩ := h
    by_cases e : j = i + 1
    · subst e; exact .inl h3
    · have he := h4 (i + 1) (by omega) (by omega)
      refine .inr ⟨he.symm, j, by omega, h2, by omega, fun m h5 h6 => ?_⟩
      rw [h4 m (by omega) h6, he]
  · rintro ⟨h, h1 | ⟨h1, h2⟩⟩
    · exact isS_of_lt h h1
    · exact isS_of_eq h1 h2

theorem code_S {i : Nat} (h : isS T n i) : code T n i = 2 * T i + 1 := by simp [code, h]
theorem code_L {i : Nat} (h : ¬ isS T n i) : code T n i = 2 * T i := by simp [code, h]

theorem code_eq {i j : Nat} (h : code T n i = code T n j) : T i = T j ∧ (isS T n i ↔ isS T n j) := by
  unfold code at h
  by_cases h1 : isS T n i <;> by_cases h2 : isS T n j <;> simp only [h1, h2, if_true, if_false] at h ⊢ <;> first | (exfalso; omega) | exact ⟨by omega, by simp⟩

theorem LMS_S {p : Nat} (h : LMS T n p) : isS T n p := h.2.2.1
theorem LMS_succ_L {i : Nat} (h : LMS T n (i + 1)) : ¬ isS T n i := h.2.2.2
/-- An S place behind an L place is LMS. -/
theorem LMS_mk {i : Nat} (h : ¬ isS T n i) (hs : isS T n (i + 1)) : LMS T n (i + 1) :=
  ⟨by omega, by have := isS_lt hs; omega, hs, h⟩
theorem LMS_gt {i : Nat} (h : LMS T n (i + 1)) : T (i + 1) < T i := by
  have h1 := LMS_S h
  have h2 := LMS_succ_L h
  have := isS_lt h1
  rcases Nat.lt_trichotomy (T i) (T (i + 1)) with h3 | h3 | h3
  · exact (h2 (isS_of_lt (by omega) h3)).elim
  · exact (h2 (isS_of_eq h3 h1)).elim
  · exact h3

theorem L_ge {i : Nat} (h : i + 1 < n) (hl : ¬ isS T n i) : T (i + 1) ≤ T i := by
  rcases Nat.lt_or_ge (T i) (T (i + 1)) with h3 | h3
  · exact (hl (isS_of_lt h h3)).elim
  · exact h3

theorem start_mono {c d : Nat} (h : c ≤ d) : start T n c ≤ start T n d := cnt_mono fun i _ hi => Nat.lt_of_lt_of_le hi h
theorem start_le (c : Nat) : start T n c ≤ n := cnt_le _ _
theorem start_split (c : Nat) : start T n (c + 1) = start T n c + cnt (fun i => T i = c) n :=
  cnt_or (fun i _ => by omega) (fun i _ h => by omega)
theorem start_top {M : Nat} (h : ∀ i, i < n → T i < M) : start T n M = n := cnt_true h

/-- L ahead of S, within one number: as suffixes. -/
theorem suf_LS : ∀ (d i j : Nat), n - i ≤ d → i < n → T i = T j → ¬ isS T n i → isS T n j → ll (suf T n i) (suf T n j)
  | 0, i, j, hd, hi, _, _, _ => by omega
  | d + 1, i, j, hd, hi, he, hl, hs => by
    have hj := isS_lt hs
    rw [suf_step hi, suf_step (by omega : j < n), ll_cons]
    refine .inr ⟨he, ?_⟩
    rw [suf_step hj]
    by_cases hn : i + 1 = n
    · rw [suf_end (by omega)]; exact nil_ll _ _
    · rw [suf_step (by omega : i + 1 < n), ll_cons]
      have h1 := L_ge (by omega) hl
      obtain ⟨_, h2⟩ := isS_step.1 hs
      rcases h2 with h2 | ⟨h2, h3⟩
      · exact .inl (by omega)
      · rcases Nat.lt_or_ge (T (i + 1)) (T (j + 1)) with h4 | h4
        · exact .inl h4
        · have e1 : T (i + 1) = T (j + 1) := by omega
          refine .inr ⟨e1, ?_⟩
          have hl' : ¬ isS T n (i + 1) := fun h => hl (isS_of_eq (by omega) h)
          have := suf_LS d (i + 1) (j + 1) (by omega) (by omega) e1 hl' h3
          rw [suf_step (by omega : i + 1 < n), suf_step hj, ll_cons] at this
          rcases this with h | h
          · omega
          · exact h.2

theorem suf_of_kfull : ∀ (d i j : Nat), n - i ≤ d → i ≤ n → j ≤ n → ll (kfull T n i) (kfull T n j) → ll (suf T n i) (suf T n j)
  | d, i, j, hd, hi, hj, h => by
    by_cases hjn : j = n
    · subst hjn; rw [kfull_end (Nat.le_refl _)] at h; exact (ll_nil _ h).elim
    have hj' : j < n := by omega
    by_cases hin : i = n
    · subst hin; rw [suf_end (Nat.le_refl _), suf_step hj']; exact nil_ll _ _
    have hi' : i < n := by omega
    match d with
    | 0 => omega
    | d + 1 =>
      rw [kfull_step hi', kfull_step hj', ll_cons] at h
      rcases h with h | ⟨h, h2⟩
      · by_cases he : T i = T j
        · unfold code at h
          by_cases h1 : isS T n i <;> by_cases h2 : isS T n j <;> simp only [h1, h2, if_true, if_false] at h <;> first | omega | skip
          exact suf_LS _ i j (Nat.le_refl _) hi' he h1 h2
        · rw [suf_step hi', suf_step hj', ll_cons]
          unfold code at h
          exact .inl (by split at h <;> split at h <;> omega)
      · obtain ⟨e1, _⟩ := code_eq h
        rw [suf_step hi', suf_step hj', ll_cons]
        exact .inr ⟨e1, suf_of_kfull d (i + 1) (j + 1) (by omega) (by omega) (by omega) h2⟩

theorem kfull_inj : ∀ (d i j : Nat), n - i ≤ d → i ≤ n → j ≤ n → kfull T n i = kfull T n j → i = j
  | d, i, j, hd, hi, hj, h => by
    by_cases hin : i = n
    · by_cases hjn : j = n
      · omega
      · subst hin; rw [kfull_end (Nat.le_refl _), kfull_step (by omega)] at h; simp at h
    · by_cases hjn : j = n
      · subst hjn; rw [kfull_end (Nat.le_refl _), kfull_step (by omega)] at h; simp at h
      · match d with
        | 0 => omega
        | d + 1 =>
          rw [kfull_step (by omega : i < n), kfull_step (by omega : j < n)] at h
          have := kfull_inj d (i + 1) (j + 1) (by omega) (by omega) (by omega) (List.cons.inj h).2
          omega
end

/-- What induced sorting asks of the keys: 'K' of every place, 'kE' of the LMS places that it starts from; 'lo': the first place that is sorted. -/
structure Keys (T : Nat → Nat) (n lo : Nat) (K kE : Nat → List Nat) : Prop where
  step : ∀ i, lo ≤ i → i < n → K i = code T n i :: (if LMS T n (i + 1) then kE (i + 1) else K (i + 1))
  last : K n = []
  head : ∀ p, LMS T n p → lo < p → ∃ tl, kE p = code T n p :: tl
  inj : ∀ p q, LMS T n p → LMS T n q → lo < p → lo < q → kE p = kE q → p = q
  low : lo = 0 ∨ LMS T n lo
  len : lo < n

section
variable {T : Nat → Nat} {n lo : Nat} {K kE : Nat → List Nat}

/-- The key by which an item of the first scan is met. -/
noncomputable def keyL (T : Nat → Nat) (n : Nat) (K kE : Nat → List Nat) (i : Nat) : List Nat := if LMS T n i then kE i else K i

theorem Keys.step' (H : Keys T n lo K kE) {i : Nat} (h0 : lo ≤ i) (h : i < n) : K i = code T n i :: keyL T n K kE (i + 1) := H.step i h0 h

def DL (T : Nat → Nat) (n lo k : Nat) : Prop := lo ≤ k ∧ k < n ∧ ¬ isS T n k
def DS (T : Nat → Nat) (n lo k : Nat) : Prop := lo ≤ k ∧ k < n ∧ isS T n k
def E (T : Nat → Nat) (n lo p : Nat) : Prop := LMS T n p ∧ lo < p

noncomputable def slotL (T : Nat → Nat) (n lo : Nat) (K : Nat → List Nat) (k : Nat) : Nat :=
  start T n (T k) + cnt (fun k' => (DL T n lo k' ∧ T k' = T k) ∧ ll (K k') (K k)) n
noncomputable def slotS (T : Nat → Nat) (n lo : Nat) (K : Nat → List Nat) (k : Nat) : Nat :=
  start T n (T k + 1) - cnt (fun k' => (DS T n lo k' ∧ T k' = T k) ∧ ¬ ll (K k') (K k)) n
noncomputable def slotE (T : Nat → Nat) (n lo : Nat) (kE : Nat → List Nat) (p : Nat) : Nat :=
  start T n (T p + 1) - cnt (fun q => (E T n lo q ∧ T q = T p) ∧ ¬ ll (kE q) (kE p)) n

/-- Where an item of the first scan lies, one further: the end of the text lies at 0. -/
noncomputable def posL (T : Nat → Nat) (n lo : Nat) (K kE : Nat → List Nat) (i : Nat) : Nat :=
  if n ≤ i then 0 else if LMS T n i then slotE T n lo kE i + 1 else slotL T n lo K i + 1
/-- Where an item of the second scan lies. -/
noncomputable def posS (T : Nat → Nat) (n lo : Nat) (K : Nat → List Nat) (i : Nat) : Nat :=
  if isS T n i then slotS T n lo K i else slotL T n lo K i

theorem E_S {p : Nat} (h : E T n lo p) : DS T n lo p := ⟨by have := h.2; omega, h.1.2.1, h.1.2.2.1⟩
theorem E_pred {p : Nat} (h : E T n lo p) : DL T n lo (p - 1) := ⟨by have := h.2; omega, by have := h.1.2.1; omega, h.1.2.2.2⟩

/-- What follows an L place is the end, an LMS place or an L place. -/
theorem DL_succ {k : Nat} (h : DL T n lo k) : k + 1 = n ∨ E T n lo (k + 1) ∨ (DL T n lo (k + 1) ∧ ¬ LMS T n (k + 1)) := by
  obtain ⟨h1, h2, h3⟩ := h
  by_cases e : k + 1 = n
  · exact .inl e
  · by_cases hs : isS T n (k + 1)
    · exact .inr (.inl ⟨LMS_mk h3 hs, by omega⟩)
    · exact .inr (.inr ⟨⟨by omega, by omega, hs⟩, fun h => hs (LMS_S h)⟩)

theorem DS_succ {k : Nat} (h : DS T n lo k) : k + 1 < n ∧ ¬ LMS T n (k + 1) :=
  ⟨isS_lt h.2.2, fun h' => LMS_succ_L h' h.2.2⟩

theorem cnt_bucket (c : Nat) : cnt (fun k => DL T n lo k ∧ T k = c) n + cnt (fun k => DS T n lo k ∧ T k = c) n ≤ cnt (fun i => T i = c) n := by
  rw [← cnt_or (r := fun k => (DL T n lo k ∧ T k = c) ∨ (DS T n lo k ∧ T k = c)) (fun i _ => Iff.rfl) (fun i _ h => h.1.1.2.2 h.2.1.2.2)]
  exact cnt_mono fun i _ h => h.elim (·.2) (·.2)
theorem cnt_E_le (c : Nat) : cnt (fun k => E T n lo k ∧ T k = c) n ≤ cnt (fun k => DS T n lo k ∧ T k = c) n :=
  cnt_mono fun _ _ h => ⟨E_S h.1, h.2⟩

/-- Within a set whose keys differ: a greater key, a greater count. -/
theorem rank_lt {A : Nat → Prop} {κ : Nat → List Nat} {x y : Nat} (hx : x < n) (ax : A x) (h : ll (κ x) (κ y)) :
    cnt (fun z => A z ∧ ll (κ z) (κ x)) n < cnt (fun z => A z ∧ ll (κ z) (κ y)) n :=
  cnt_lt (a := x) (fun _ _ hz => ⟨hz.1, ll_trans hz.2 h⟩) hx ⟨ax, h⟩ (fun hh => ll_irrefl _ hh.2)
theorem rank_lt' {A : Nat → Prop} {κ : Nat → List Nat} {x y : Nat} (hx : x < n) (ax : A x) (h : ll (κ x) (κ y)) :
    cnt (fun z => A z ∧ ¬ ll (κ z) (κ y)) n < cnt (fun z => A z ∧ ¬ ll (κ z) (κ x)) n :=
  cnt_lt (a := x) (fun _ _ hz => ⟨hz.1, fun hh => hz.2 (ll_trans hh h)⟩) hx ⟨ax, ll_irrefl _⟩ (fun hh => hh.2 h)
theorem rank_top {A : Nat → Prop} {κ : Nat → List Nat} {x : Nat} (hx : x < n) (ax : A x) :
    cnt (fun z => A z ∧ ll (κ z) (κ x)) n < cnt A n :=
  cnt_lt (a := x) (fun _ _ hz => hz.1) hx ax (fun hh => ll_irrefl _ hh.2)
theorem rank_pos' {A : Nat → Prop} {κ : Nat → List Nat} {x : Nat} (hx : x < n) (ax : A x) :
    0 < cnt (fun z => A z ∧ ¬ ll (κ z) (κ x)) n ∧ cnt (fun z => A z ∧ ¬ ll (κ z) (κ x)) n ≤ cnt A n :=
  ⟨cnt_pos hx ⟨ax, ll_irrefl _⟩, cnt_mono fun _ _ h => h.1⟩

theorem slotL_bd {k : Nat} (h : DL T n lo k) : start T n (T k) ≤ slotL T n lo K k ∧ slotL T n lo K k < start T n (T k) + cnt (fun k' => DL T n lo k' ∧ T k' = T k) n := by
  have := rank_top (A := fun k' => DL T n lo k' ∧ T k' = T k) (κ := K) h.2.1 ⟨h, rfl⟩
  unfold slotL
  omega
theorem slotS_bd {k : Nat} (h : DS T n lo k) : start T n (T k + 1) ≤ slotS T n lo K k + cnt (fun k' => DS T n lo k' ∧ T k' = T k) n ∧ slotS T n lo K k < start T n (T k + 1) := by
  have h1 := rank_pos' (A := fun k' => DS T n lo k' ∧ T k' = T k) (κ := K) h.2.1 ⟨h, rfl⟩
  have h2 := cnt_bucket (T := T) (n := n) (lo := lo) (T k)
  have h3 := start_split (T := T) (n := n) (T k)
  unfold slotS
  omega
theorem slotE_bd {p : Nat} (h : E T n lo p) : start T n (T p + 1) ≤ slotE T n lo kE p + cnt (fun k' => E T n lo k' ∧ T k' = T p) n ∧ slotE T n lo kE p < start T n (T p + 1) := by
  have h1 := rank_pos' (A := fun k' => E T n lo k' ∧ T k' = T p) (κ := kE) h.1.2.1 ⟨h, rfl⟩
  have h2 := cnt_bucket (T := T) (n := n) (lo := lo) (T p)
  have h3 := start_split (T := T) (n := n) (T p)
  have h4 := cnt_E_le (T := T) (n := n) (lo := lo) (T p)
  unfold slotE
  omega
theorem slotL_lt_n {k : Nat} (h : DL T n lo k) : slotL T n lo K k < n := by
  have h1 := slotL_bd (K := K) h
  have h2 := cnt_bucket (T := T) (n := n) (lo := lo) (T k)
  have h3 := start_split (T := T) (n := n) (T k)
  have := start_le (T := T) (n := n) (T k + 1)
  omega
theorem slotS_lt_n {k : Nat} (h : DS T n lo k) : slotS T n lo K k < n := by
  have h1 := slotS_bd (K := K) h
  have := start_le (T := T) (n := n) (T k + 1)
  omega
theorem slotE_lt_n {k : Nat} (h : E T n lo k) : slotE T n lo kE k < n := by
  have h1 := slotE_bd (kE := kE) h
  have := start_le (T := T) (n := n) (T k + 1)
  omega

theorem slotL_mono {x y : Nat} (hx : DL T n lo x) (hy : DL T n lo y) (hc : T x = T y) (h : ll (K x) (K y)) : slotL T n lo K x < slotL T n lo K y := by
  have := rank_lt (A := fun k' => DL T n lo k' ∧ T k' = T y) (κ := K) hx.2.1 ⟨hx, hc⟩ h
  unfold slotL
  rw [hc]
  omega
theorem slotS_mono {x y : Nat} (hx : DS T n lo x) (hy : DS T n lo y) (hc : T x = T y) (h : ll (K x) (K y)) : slotS T n lo K x < slotS T n lo K y := by
  have h0 := rank_lt' (A := fun k' => DS T n lo k' ∧ T k' = T y) (κ := K) hx.2.1 ⟨hx, hc⟩ h
  have h1 := rank_pos' (A := fun k' => DS T n lo k' ∧ T k' = T y) (κ := K) hx.2.1 ⟨hx, hc⟩
  have h2 := cnt_bucket (T := T) (n := n) (lo := lo) (T y)
  have h3 := start_split (T := T) (n := n) (T y)
  unfold slotS
  rw [hc]
  omega
theorem slotE_mono {x y : Nat} (hx : E T n lo x) (hy : E T n lo y) (hc : T x = T y) (h : ll (kE x) (kE y)) : slotE T n lo kE x < slotE T n lo kE y := by
  have h0 := rank_lt' (A := fun k' => E T n lo k' ∧ T k' = T y) (κ := kE) hx.1.2.1 ⟨hx, hc⟩ h
  have h1 := rank_pos' (A := fun k' => E T n lo k' ∧ T k' = T y) (κ := kE) hx.1.2.1 ⟨hx, hc⟩
  have h2 := cnt_bucket (T := T) (n := n) (lo := lo) (T y)
  have h3 := start_split (T := T) (n := n) (T y)
  have h4 := cnt_E_le (T := T) (n := n) (lo := lo) (T y)
  unfold slotE
  rw [hc]
  omega

/-- Items of the first scan: the end, LMS places behind lo, L places. -/
def ItemL (T : Nat → Nat) (n lo i : Nat) : Prop := i = n ∨ E T n lo i ∨ DL T n lo i
theorem DL_not_LMS {k : Nat} (h : DL T n lo k) : ¬ LMS T n k := fun h' => h.2.2 (LMS_S h')

theorem posL_n : posL T n lo K kE n = 0 := by simp [posL]
theorem posL_E {p : Nat} (h : E T n lo p) : posL T n lo K kE p = slotE T n lo kE p + 1 := by
  have := h.1.2.1
  simp [posL, h.1, show ¬ n ≤ p by omega]
theorem posL_L {k : Nat} (h : DL T n lo k) : posL T n lo K kE k = slotL T n lo K k + 1 := by
  have := h.2.1
  simp [posL, DL_not_LMS h, show ¬ n ≤ k by omega]
theorem keyL_E {p : Nat} (h : E T n lo p) : keyL T n K kE p = kE p := by simp [keyL, h.1]
theorem keyL_L {k : Nat} (h : DL T n lo k) : keyL T n K kE k = K k := by simp [keyL, DL_not_LMS h]
theorem not_LMS_n : ¬ LMS T n n := fun h => by have := h.2.1; omega
theorem keyL_n (H : Keys T n lo K kE) : keyL T n K kE n = [] := by simp [keyL, not_LMS_n, H.last]

theorem slot_cross {x y : Nat} (h : T x < T y) : start T n (T x + 1) ≤ start T n (T y) := start_mono h

theorem posL_mono (H : Keys T n lo K kE) {x y : Nat} (hx : ItemL T n lo x) (hy : ItemL T n lo y) (h : ll (keyL T n K kE x) (keyL T n K kE y)) :
    posL T n lo K kE x < posL T n lo K kE y := by
  rcases hy with rfl | hy | hy
  · rw [keyL_n H] at h; exact (ll_nil _ h).elim
  · rcases hx with rfl | hx | hx
    · rw [posL_n, posL_E hy]; omega
    · rw [keyL_E hx, keyL_E hy] at h
      rw [posL_E hx, posL_E hy]
      obtain ⟨t1, e1⟩ := H.head x hx.1 hx.2
      obtain ⟨t2, e2⟩ := H.head y hy.1 hy.2
      by_cases hc : T x = T y
      · have := slotE_mono (kE := kE) hx hy hc h; omega
      · rw [e1, e2, ll_cons, code_S hx.1.2.2.1, code_S hy.1.2.2.1] at h
        have h1 := slotE_bd (kE := kE) hx
        have h2 := slotE_bd (kE := kE) hy
        have h3 := slot_cross (n := n) (T := T) (x := x) (y := y) (by omega)
        have h4 := cnt_bucket (T := T) (n := n) (lo := lo) (T y)
        have h5 := start_split (T := T) (n := n) (T y)
        have h6 := cnt_E_le (T := T) (n := n) (lo := lo) (T y)
        omega
    · rw [keyL_L hx, keyL_E hy, H.step' hx.1 hx.2.1] at h
      obtain ⟨t2, e2⟩ := H.head y hy.1 hy.2
      rw [e2, ll_cons, code_S hy.1.2.2.1, code_L hx.2.2] at h
      rw [posL_L hx, posL_E hy]
      have h1 := slotL_bd (K := K) hx
      have h2 := slotE_bd (kE := kE) hy
      have h4 := cnt_bucket (T := T) (n := n) (lo := lo) (T y)
      have h5 := start_split (T := T) (n := n) (T y)
      have h6 := cnt_E_le (T := T) (n := n) (lo := lo) (T y)
      by_cases hc : T x = T y
      · rw [hc] at h1; omega
      · have h3 := slot_cross (n := n) (T := T) (x := x) (y := y) (by omega)
        have h7 := cnt_bucket (T := T) (n := n) (lo := lo) (T x)
        have h8 := start_split (T := T) (n := n) (T x)
        omega
  · rcases hx with rfl | hx | hx
    · rw [posL_n, posL_L hy]; omega
    · rw [keyL_E hx, keyL_L hy, H.step' hy.1 hy.2.1] at h
      obtain ⟨t2, e2⟩ := H.head x hx.1 hx.2
      rw [e2, ll_cons, code_S hx.1.2.2.1, code_L hy.2.2] at h
      rw [posL_E hx, posL_L hy]
      have h1 := slotE_bd (kE := kE) hx
      have h2 := slotL_bd (K := K) hy
      have h3 := slot_cross (n := n) (T := T) (x := x) (y := y) (by omega)
      omega
    · rw [keyL_L hx, keyL_L hy] at h
      rw [posL_L hx, posL_L hy]
      by_cases hc : T x = T y
      · have := slotL_mono (K := K) hx hy hc h; omega
      · rw [H.step' hx.1 hx.2.1, H.step' hy.1 hy.2.1, ll_cons, code_L hx.2.2, code_L hy.2.2] at h
        have h1 := slotL_bd (K := K) hx
        have h2 := slotL_bd (K := K) hy
        have h3 := slot_cross (n := n) (T := T) (x := x) (y := y) (by omega)
        have h7 := cnt_bucket (T := T) (n := n) (lo := lo) (T x)
        have h8 := start_split (T := T) (n := n) (T x)
        omega

theorem K_inj (H : Keys T n lo K kE) : ∀ (d i j : Nat), n - i ≤ d → lo ≤ i → i ≤ n → lo ≤ j → j ≤ n → K i = K j → i = j
  | d, i, j, hd, hi0, hi, hj0, hj, h => by
    by_cases hin : i = n
    · by_cases hjn : j = n
      · omega
      · subst hin; rw [H.last, H.step' hj0 (by omega)] at h; simp at h
    · by_cases hjn : j = n
      · subst hjn; rw [H.last, H.step' hi0 (by omega)] at h; simp at h
      · match d with
        | 0 => omega
        | d + 1 =>
          rw [H.step' hi0 (by omega : i < n), H.step' hj0 (by omega : j < n)] at h
          obtain ⟨hc, ht⟩ := List.cons.inj h
          obtain ⟨ec, es⟩ := code_eq hc
          have aux : ∀ a b : Nat, lo ≤ a → a < n → lo ≤ b → b < n → (isS T n a ↔ isS T n b) → LMS T n (a + 1) → ¬ LMS T n (b + 1) → keyL T n K kE (a + 1) ≠ keyL T n K kE (b + 1) := by
            intro a b ha0 ha hb0 hb hs h1 h2 e
            have h3 : ¬ isS T n a := LMS_succ_L h1
            have h4 : ¬ isS T n b := fun h => h3 (hs.2 h)
            have h5 : ¬ isS T n (b + 1) := fun h => h2 (LMS_mk h4 h)
            obtain ⟨tl, e2⟩ := H.head (a + 1) h1 (by omega)
            simp only [keyL, h1, h2, if_true, if_false] at e
            by_cases hbn : b + 1 = n
            · rw [e2, hbn, H.last] at e; simp at e
            · rw [e2, H.step' (by omega) (by omega : b + 1 < n)] at e
              have := (code_eq (List.cons.inj e).1).2
              exact h5 (this.1 (LMS_S h1))
          by_cases h1 : LMS T n (i + 1) <;> by_cases h2 : LMS T n (j + 1)
          · simp only [keyL, h1, h2, if_true] at ht
            have := H.inj _ _ h1 h2 (by omega) (by omega) ht
            omega
          · exact (aux i j hi0 (by omega) hj0 (by omega) es h1 h2 ht).elim
          · exact (aux j i hj0 (by omega) hi0 (by omega) es.symm h2 h1 ht.symm).elim
          · simp only [keyL, h1, h2, if_false] at ht
            have := K_inj H d (i + 1) (j + 1) (by omega) (by omega) (by omega) (by omega) (by omega) ht
            omega

theorem keyL_inj (H : Keys T n lo K kE) {x y : Nat} (hx : ItemL T n lo x) (hy : ItemL T n lo y) (h : keyL T n K kE x = keyL T n K kE y) : x = y := by
  have hlen := H.len
  have aux : ∀ a b : Nat, E T n lo a → (b = n ∨ DL T n lo b) → keyL T n K kE a ≠ keyL T n K kE b := by
    intro a b ha hb e
    obtain ⟨tl, e2⟩ := H.head a ha.1 ha.2
    rw [keyL_E ha, e2] at e
    rcases hb with rfl | hb
    · rw [keyL_n H] at e; simp at e
    · rw [keyL_L hb, H.step' hb.1 hb.2.1] at e
      exact hb.2.2 ((code_eq (List.cons.inj e).1).2.1 (LMS_S ha.1))
  by_cases h1 : E T n lo x
  · by_cases h2 : E T n lo y
    · rw [keyL_E h1, keyL_E h2] at h
      exact H.inj _ _ h1.1 h2.1 h1.2 h2.2 h
    · exact (aux x y h1 (by rcases hy with h' | h' | h'; exact .inl h'; exact (h2 h').elim; exact .inr h') h).elim
  · have hx' : x = n ∨ DL T n lo x := by rcases hx with h' | h' | h'; exact .inl h'; exact (h1 h').elim; exact .inr h'
    by_cases h2 : E T n lo y
    · exact (aux y x h2 hx' h.symm).elim
    · have hy' : y = n ∨ DL T n lo y := by rcases hy with h' | h' | h'; exact .inl h'; exact (h2 h').elim; exact .inr h'
      have e1 : ∀ z, z = n ∨ DL T n lo z → keyL T n K kE z = K z ∧ lo ≤ z ∧ z ≤ n := by
        rintro z (rfl | hz)
        · exact ⟨by simp [keyL, not_LMS_n], by omega, Nat.le_refl _⟩
        · exact ⟨keyL_L hz, hz.1, by have := hz.2.1; omega⟩
      obtain ⟨a1, a2, a3⟩ := e1 x hx'
      obtain ⟨b1, b2, b3⟩ := e1 y hy'
      rw [a1, b1] at h
      exact K_inj H _ x y (Nat.le_refl _) a2 a3 b2 b3 h

theorem posL_lt (H : Keys T n lo K kE) {x y : Nat} (hx : ItemL T n lo x) (hy : ItemL T n lo y) :
    posL T n lo K kE x < posL T n lo K kE y ↔ ll (keyL T n K kE x) (keyL T n K kE y) := by
  refine ⟨fun h => ?_, posL_mono H hx hy⟩
  rcases ll_tri (keyL T n K kE x) (keyL T n K kE y) with h' | h' | h'
  · exact h'
  · have := keyL_inj H hx hy h'; subst this; omega
  · have := posL_mono H hy hx h'; omega

theorem posL_inj (H : Keys T n lo K kE) {x y : Nat} (hx : ItemL T n lo x) (hy : ItemL T n lo y) (h : posL T n lo K kE x = posL T n lo K kE y) : x = y := by
  rcases ll_tri (keyL T n K kE x) (keyL T n K kE y) with h' | h' | h'
  · have := posL_mono H hx hy h'; omega
  · exact keyL_inj H hx hy h'
  · have := posL_mono H hy hx h'; omega

theorem DL_item {k : Nat} (h : DL T n lo k) : ItemL T n lo k := .inr (.inr h)
theorem succ_item {k : Nat} (h : DL T n lo k) : ItemL T n lo (k + 1) := by
  rcases DL_succ h with h' | h' | h'
  · exact .inl h'
  · exact .inr (.inl h')
  · exact .inr (.inr h'.1)

theorem key_down (H : Keys T n lo K kE) : ∀ (d k : Nat), n - k ≤ d → DL T n lo k → ll (keyL T n K kE (k + 1)) (K k)
  | 0, k, hd, h => by have := h.2.1; omega
  | d + 1, k, hd, h => by
    rw [H.step' h.1 h.2.1, code_L h.2.2]
    rcases DL_succ h with h' | h' | ⟨h', hn⟩
    · rw [h', keyL_n H]; exact nil_ll _ _
    · obtain ⟨tl, e⟩ := H.head (k + 1) h'.1 h'.2
      have := LMS_gt h'.1
      rw [keyL_E h', e, ll_cons, code_S h'.1.2.2.1]
      exact .inl (by omega)
    · rw [keyL_L h']
      have h1 := L_ge h'.2.1 h.2.2
      have ih := key_down H d (k + 1) (by omega) h'
      rw [H.step' h'.1 h'.2.1, code_L h'.2.2] at ih ⊢
      rw [ll_cons]
      rcases Nat.lt_or_ge (T (k + 1)) (T k) with h3 | h3
      · exact .inl (by omega)
      · exact .inr ⟨by omega, ih⟩

/-- THE FIRST SCAN: what is laid lies behind what it was laid for. -/
theorem posL_down (H : Keys T n lo K kE) {k : Nat} (h : DL T n lo k) : posL T n lo K kE (k + 1) < posL T n lo K kE k := by
  rw [posL_lt H (succ_item h) (DL_item h), keyL_L h]
  exact key_down H _ k (Nat.le_refl _) h

/-- THE FIRST SCAN: the slot of an L place, by how many of its number were laid before it. -/
theorem slotL_eq (H : Keys T n lo K kE) {k : Nat} (h : DL T n lo k) :
    slotL T n lo K k = start T n (T k) + cnt (fun k' => (DL T n lo k' ∧ T k' = T k) ∧ posL T n lo K kE (k' + 1) < posL T n lo K kE (k + 1)) n := by
  unfold slotL
  congr 1
  refine cnt_congr fun k' _ => ?_
  refine ⟨fun ⟨h1, h2⟩ => ⟨h1, ?_⟩, fun ⟨h1, h2⟩ => ⟨h1, ?_⟩⟩
  · rw [posL_lt H (succ_item h1.1) (succ_item h)]
    rw [H.step' h1.1.1 h1.1.2.1, H.step' h.1 h.2.1, ll_cons, code_L h1.1.2.2, code_L h.2.2, h1.2] at h2
    rcases h2 with h2 | h2
    · omega
    · exact h2.2
  · rw [posL_lt H (succ_item h1.1) (succ_item h)] at h2
    rw [H.step' h1.1.1 h1.1.2.1, H.step' h.1 h.2.1, ll_cons, code_L h1.1.2.2, code_L h.2.2, h1.2]
    exact .inr ⟨rfl, h2⟩

/- THE SECOND SCAN -/
theorem posS_S {k : Nat} (h : DS T n lo k) : posS T n lo K k = slotS T n lo K k := by simp [posS, h.2.2]
theorem posS_L {k : Nat} (h : DL T n lo k) : posS T n lo K k = slotL T n lo K k := by simp [posS, h.2.2]
theorem D_cases {k : Nat} (h0 : lo ≤ k) (h : k < n) : DS T n lo k ∨ DL T n lo k := by
  by_cases hs : isS T n k
  · exact .inl ⟨h0, h, hs⟩
  · exact .inr ⟨h0, h, hs⟩

theorem posS_mono (H : Keys T n lo K kE) {x y : Nat} (hx0 : lo ≤ x) (hx : x < n) (hy0 : lo ≤ y) (hy : y < n) (h : ll (K x) (K y)) : posS T n lo K x < posS T n lo K y := by
  have h7 := cnt_bucket (T := T) (n := n) (lo := lo) (T x)
  have h8 := start_split (T := T) (n := n) (T x)
  have h9 := cnt_bucket (T := T) (n := n) (lo := lo) (T y)
  have h10 := start_split (T := T) (n := n) (T y)
  have h' := h
  rw [H.step' hx0 hx, H.step' hy0 hy, ll_cons] at h'
  rcases D_cases (T := T) hx0 hx with a | a <;> rcases D_cases (T := T) hy0 hy with b | b
  · rw [posS_S a, posS_S b]
    rw [code_S a.2.2, code_S b.2.2] at h'
    by_cases hc : T x = T y
    · exact slotS_mono a b hc h
    · have h1 := slotS_bd (K := K) a
      have h2 := slotS_bd (K := K) b
      have h3 := slot_cross (n := n) (T := T) (x := x) (y := y) (by omega)
      omega
  · rw [posS_S a, posS_L b]
    rw [code_S a.2.2, code_L b.2.2] at h'
    have h1 := slotS_bd (K := K) a
    have h2 := slotL_bd (K := K) b
    have h3 := slot_cross (n := n) (T := T) (x := x) (y := y) (by omega)
    omega
  · rw [posS_L a, posS_S b]
    rw [code_L a.2.2, code_S b.2.2] at h'
    have h1 := slotL_bd (K := K) a
    have h2 := slotS_bd (K := K) b
    by_cases hc : T x = T y
    · rw [hc] at h1; omega
    · have h3 := slot_cross (n := n) (T := T) (x := x) (y := y) (by omega)
      omega
  · rw [posS_L a, posS_L b]
    rw [code_L a.2.2, code_L b.2.2] at h'
    by_cases hc : T x = T y
    · exact slotL_mono a b hc h
    · have h1 := slotL_bd (K := K) a
      have h2 := slotL_bd (K := K) b
      have h3 := slot_cross (n := n) (T := T) (x := x) (y := y) (by omega)
      omega

theorem posS_lt (H : Keys T n lo K kE) {x y : Nat} (hx0 : lo ≤ x) (hx : x < n) (hy0 : lo ≤ y) (hy : y < n) : posS T n lo K x < posS T n lo K y ↔ ll (K x) (K y) := by
  refine ⟨fun h => ?_, posS_mono H hx0 hx hy0 hy⟩
  rcases ll_tri (K x) (K y) with h' | h' | h'
  · exact h'
  · have := K_inj H _ x y (Nat.le_refl _) hx0 (by omega) hy0 (by omega) h'; subst this; omega
  · have := posS_mono H hy0 hy hx0 hx h'; omega
theorem posS_inj (H : Keys T n lo K kE) {x y : Nat} (hx0 : lo ≤ x) (hx : x < n) (hy0 : lo ≤ y) (hy : y < n) (h : posS T n lo K x = posS T n lo K y) : x = y := by
  rcases ll_tri (K x) (K y) with h' | h' | h'
  · have := posS_mono H hx0 hx hy0 hy h'; omega
  · exact K_inj H _ x y (Nat.le_refl _) hx0 (by omega) hy0 (by omega) h'
  · have := posS_mono H hy0 hy hx0 hx h'; omega
theorem posS_lt_n {x : Nat} (hx0 : lo ≤ x) (hx : x < n) : posS T n lo K x < n := by
  rcases D_cases (T := T) hx0 hx with a | a
  · rw [posS_S a]; exact slotS_lt_n a
  · rw [posS_L a]; exact slotL_lt_n a

theorem key_up (H : Keys T n lo K kE) : ∀ (d k : Nat), n - k ≤ d → DS T n lo k → ll (K k) (K (k + 1))
  | 0, k, hd, h => by have := h.2.1; omega
  | d + 1, k, hd, h => by
    obtain ⟨h1, h2⟩ := DS_succ h
    obtain ⟨_, h3⟩ := isS_step.1 h.2.2
    have e1 : K k = code T n k :: K (k + 1) := by rw [H.step' h.1 h.2.1]; simp [keyL, h2]
    rw [e1, code_S h.2.2]
    rcases h3 with h3 | ⟨h3, h4⟩
    · rw [H.step' (by have := h.1; omega) h1, ll_cons]
      refine .inl ?_
      unfold code
      omega
    · have hd' : DS T n lo (k + 1) := ⟨by have := h.1; omega, h1, h4⟩
      have ih := key_up H d (k + 1) (by omega) hd'
      obtain ⟨h5, h6⟩ := DS_succ hd'
      have e2 : K (k + 1) = code T n (k + 1) :: K (k + 2) := by rw [H.step' hd'.1 h1]; simp [keyL, h6]
      rw [e2, code_S h4] at ih ⊢
      rw [ll_cons]
      exact .inr ⟨by omega, ih⟩

theorem posS_up (H : Keys T n lo K kE) {k : Nat} (h : DS T n lo k) : posS T n lo K k < posS T n lo K (k + 1) :=
  posS_mono H h.1 h.2.1 (by have := h.1; omega) (DS_succ h).1 (key_up H _ k (Nat.le_refl _) h)

/-- THE SECOND SCAN: the slot of an S place, by how many of its number were laid before it. -/
theorem slotS_eq (H : Keys T n lo K kE) {k : Nat} (h : DS T n lo k) :
    slotS T n lo K k + 1 + cnt (fun k' => (DS T n lo k' ∧ T k' = T k) ∧ posS T n lo K (k + 1) < posS T n lo K (k' + 1)) n = start T n (T k + 1) := by
  have hstep : ∀ k', DS T n lo k' → K k' = code T n k' :: K (k' + 1) := fun k' h' => by rw [H.step' h'.1 h'.2.1]; simp [keyL, (DS_succ h').2]
  have e : cnt (fun k' => (DS T n lo k' ∧ T k' = T k) ∧ ¬ ll (K k') (K k)) n = cnt (fun k' => (DS T n lo k' ∧ T k' = T k) ∧ posS T n lo K (k + 1) < posS T n lo K (k' + 1)) n + 1 := by
    refine cnt_insert (a := k) h.2.1 (fun k' hk' => ?_) (fun hh => by omega)
    constructor
    · rintro ⟨h1, h2⟩
      by_cases e : k' = k
      · exact .inr e
      · refine .inl ⟨h1, ?_⟩
        rw [posS_lt H (by have := h.1; omega) (DS_succ h).1 (by have := h1.1.1; omega) (DS_succ h1.1).1]
        rcases ll_tri (K k') (K k) with h' | h' | h'
        · exact (h2 h').elim
        · exact (e (K_inj H _ k' k (Nat.le_refl _) h1.1.1 (by omega) h.1 (by have := h.2.1; omega) h')).elim
        · rw [hstep k h, hstep k' h1.1, ll_cons, code_S h.2.2, code_S h1.1.2.2, h1.2] at h'
          rcases h' with h' | h'
          · omega
          · exact h'.2
    · rintro (⟨h1, h2⟩ | rfl)
      · refine ⟨h1, fun h' => ?_⟩
        rw [posS_lt H (by have := h.1; omega) (DS_succ h).1 (by have := h1.1.1; omega) (DS_succ h1.1).1] at h2
        rw [hstep k h, hstep k' h1.1, ll_cons, code_S h.2.2, code_S h1.1.2.2, h1.2] at h'
        rcases h' with h' | h'
        · omega
        · exact ll_asymm h2 h'.2
      · exact ⟨⟨h, rfl⟩, ll_irrefl _⟩
  have h1 := rank_pos' (A := fun k' => DS T n lo k' ∧ T k' = T k) (κ := K) h.2.1 ⟨h, rfl⟩
  have h2 := cnt_bucket (T := T) (n := n) (lo := lo) (T k)
  have h3 := start_split (T := T) (n := n) (T k)
  unfold slotS
  omega
end
end Sais

/- The four scans of induced sorting: what holds when a scan stands at a slot, and that each way through a round keeps it. -/
set_option linter.unusedVariables false
namespace Sais
open Classical

section
variable {T : Nat → Nat} {n lo M i : Nat} {K kE : Nat → List Nat} {sa P : Nat → Int}

/-- The mark: a place whose predecessor is of type S is laid as its negative. -/
noncomputable def mL (T : Nat → Nat) (n k : Nat) : Int := if 0 < k ∧ isS T n (k - 1) then -(k : Int) else k
theorem mL_neg {k : Nat} (h0 : 0 < k) (h : isS T n (k - 1)) : mL T n k = -(k : Int) := by simp [mL, h0, h]
theorem mL_pos {k : Nat} (h : ¬ (0 < k ∧ isS T n (k - 1))) : mL T n k = (k : Int) := by simp only [mL, h, if_false]
theorem mL_ne {k : Nat} (h0 : 0 < k) : mL T n k ≠ 0 := by unfold mL; split <;> omega

theorem pred_S_of_L {k : Nat} (hk : k < n) (h0 : 0 < k) (hl : ¬ isS T n k) : isS T n (k - 1) ↔ T (k - 1) < T k := by
  obtain ⟨m, rfl⟩ : ∃ m, k = m + 1 := ⟨k - 1, by omega⟩
  rw [isS_step]
  simp only [Nat.add_sub_cancel]
  constructor
  · rintro ⟨_, h | h⟩
    · exact h
    · exact (hl h.2).elim
  · exact fun h => ⟨hk, .inl h⟩
theorem pred_S_of_S {k : Nat} (hk : k < n) (h0 : 0 < k) (hl : isS T n k) : isS T n (k - 1) ↔ T (k - 1) ≤ T k := by
  obtain ⟨m, rfl⟩ : ∃ m, k = m + 1 := ⟨k - 1, by omega⟩
  rw [isS_step]
  simp only [Nat.add_sub_cancel]
  constructor
  · rintro ⟨_, h | h⟩ <;> omega
  · intro h
    refine ⟨hk, ?_⟩
    rcases Nat.lt_or_ge (T m) (T (m + 1)) with h' | h'
    · exact .inl h'
    · exact .inr ⟨by omega, hl⟩

/-- How many L places of number c have been laid when the first scan stands at i. -/
noncomputable def cL (T : Nat → Nat) (n lo : Nat) (K kE : Nat → List Nat) (i c : Nat) : Nat := cnt (fun k => (DL T n lo k ∧ T k = c) ∧ posL T n lo K kE (k + 1) ≤ i) n

theorem cL_none {c : Nat} (h : ∀ k, DL T n lo k → posL T n lo K kE (k + 1) ≠ i + 1) : cL T n lo K kE (i + 1) c = cL T n lo K kE i c :=
  cnt_congr fun k _ => ⟨fun ⟨h1, h2⟩ => ⟨h1, by have := h k h1.1; omega⟩, fun ⟨h1, h2⟩ => ⟨h1, by omega⟩⟩

theorem cL_some (H : Keys T n lo K kE) {c k : Nat} (hk : DL T n lo k) (h : posL T n lo K kE (k + 1) = i + 1) :
    cL T n lo K kE (i + 1) c = cL T n lo K kE i c + if c = T k then 1 else 0 := by
  by_cases hc : c = T k
  · rw [if_pos hc]
    refine cnt_insert (a := k) hk.2.1 (fun k' _ => ?_) (fun hh => by omega)
    constructor
    · rintro ⟨h1, h2⟩
      by_cases e : posL T n lo K kE (k' + 1) = i + 1
      · have := posL_inj H (succ_item h1.1) (succ_item hk) (by omega)
        exact .inr (by omega)
      · exact .inl ⟨h1, by omega⟩
    · rintro (⟨h1, h2⟩ | rfl)
      · exact ⟨h1, by omega⟩
      · exact ⟨⟨hk, hc.symm⟩, by omega⟩
  · rw [if_neg hc, Nat.add_zero]
    refine cnt_congr fun k' _ => ⟨fun ⟨h1, h2⟩ => ⟨h1, ?_⟩, fun ⟨h1, h2⟩ => ⟨h1, by omega⟩⟩
    by_cases e : posL T n lo K kE (k' + 1) = i + 1
    · have := posL_inj H (succ_item h1.1) (succ_item hk) (by omega)
      have e2 : k' = k := by omega
      subst e2
      exact (hc h1.2.symm).elim
    · omega

theorem slotL_now (H : Keys T n lo K kE) {k : Nat} (hk : DL T n lo k) (h : posL T n lo K kE (k + 1) = i + 1) : slotL T n lo K k = start T n (T k) + cL T n lo K kE i (T k) := by
  rw [slotL_eq H hk, h]
  congr 1
  exact cnt_congr fun k' _ => ⟨fun ⟨h1, h2⟩ => ⟨h1, by omega⟩, fun ⟨h1, h2⟩ => ⟨h1, by omega⟩⟩
theorem slotL_first (H : Keys T n lo K kE) {k : Nat} (hk : DL T n lo k) (h : posL T n lo K kE (k + 1) = 0) : slotL T n lo K k = start T n (T k) := by
  rw [slotL_eq H hk, h, cnt_false (fun k' _ hh => by omega)]
  rfl

theorem slotE_ne_L (H : Keys T n lo K kE) {e k : Nat} (he : E T n lo e) (hk : DL T n lo k) : slotE T n lo kE e ≠ slotL T n lo K k := by
  intro h
  have := posL_inj H (x := e) (y := k) (.inr (.inl he)) (DL_item hk) (by rw [posL_E he, posL_L hk, h])
  subst this
  exact hk.2.2 (LMS_S he.1)
theorem slotL_inj (H : Keys T n lo K kE) {k k' : Nat} (hk : DL T n lo k) (hk' : DL T n lo k') (h : slotL T n lo K k = slotL T n lo K k') : k = k' :=
  posL_inj H (DL_item hk) (DL_item hk') (by rw [posL_L hk, posL_L hk', h])
theorem slotE_inj (H : Keys T n lo K kE) {k k' : Nat} (hk : E T n lo k) (hk' : E T n lo k') (h : slotE T n lo kE k = slotE T n lo kE k') : k = k' :=
  posL_inj H (.inr (.inl hk)) (.inr (.inl hk')) (by rw [posL_E hk, posL_E hk', h])
theorem slotL_down (H : Keys T n lo K kE) {k : Nat} (hk : DL T n lo k) : posL T n lo K kE (k + 1) ≤ slotL T n lo K k := by
  have := posL_down H hk
  rw [posL_L hk] at this
  omega

/-- THE FIRST SCAN of the first phase, at slot i. -/
structure SubL (T : Nat → Nat) (n lo M : Nat) (K kE : Nat → List Nat) (i : Nat) (sa P : Nat → Int) : Prop where
  p : ∀ c, c < M → P c = start T n c + cL T n lo K kE i c
  aE : ∀ e, E T n lo e → i ≤ slotE T n lo kE e → sa (slotE T n lo kE e) = e
  aL : ∀ k, DL T n lo k → posL T n lo K kE (k + 1) ≤ i → i ≤ slotL T n lo K k → sa (slotL T n lo K k) = mL T n k
  aD : ∀ k, DL T n lo k → slotL T n lo K k < i → 0 < k → isS T n (k - 1) → sa (slotL T n lo K k) = k
  z : ∀ x, x < n → sa x ≠ 0 → (i ≤ x ∧ ∃ e, E T n lo e ∧ slotE T n lo kE e = x) ∨ (∃ k, DL T n lo k ∧ posL T n lo K kE (k + 1) ≤ i ∧ slotL T n lo K k = x ∧ (x < i → 0 < k ∧ isS T n (k - 1)))

theorem SubL.skip (H : Keys T n lo K kE) (I : SubL T n lo M K kE i sa P) (hi : i < n) (h : sa i = 0) : SubL T n lo M K kE (i + 1) sa P := by
  have none : ∀ k, DL T n lo k → posL T n lo K kE (k + 1) ≠ i + 1 := by
    intro k hk e
    rcases DL_succ hk with h' | h' | ⟨h', _⟩
    · rw [h', posL_n] at e; omega
    · rw [posL_E h'] at e
      have := I.aE _ h' (by omega)
      rw [show slotE T n lo kE (k + 1) = i by omega] at this
      omega
    · rw [posL_L h'] at e
      have h1 := slotL_down H h'
      have := I.aL _ h' (by omega) (by omega)
      rw [show slotL T n lo K (k + 1) = i by omega, h] at this
      exact mL_ne (T := T) (n := n) (by omega : 0 < k + 1) this.symm
  refine ⟨fun c hc => by rw [cL_none none]; exact I.p c hc, fun e he h' => I.aE e he (by omega), fun k hk h1 h2 => I.aL k hk (by have := none k hk; omega) (by omega), ?_, ?_⟩
  · intro k hk h1 h2 h3
    by_cases e : slotL T n lo K k = i
    · have h4 := slotL_down H hk
      have := I.aL k hk (by omega) (by omega)
      rw [e, h] at this
      exact (mL_ne h2 this.symm).elim
    · exact I.aD k hk (by omega) h2 h3
  · intro x hx hne
    have hxi : x ≠ i := fun e => hne (e ▸ h)
    rcases I.z x hx hne with ⟨h1, h2⟩ | ⟨k, h1, h2, h3, h4⟩
    · exact .inl ⟨by omega, h2⟩
    · exact .inr ⟨k, h1, by omega, h3, fun hh => h4 (by omega)⟩

theorem SubL.flip (H : Keys T n lo K kE) (I : SubL T n lo M K kE i sa P) (hi : i < n) (h : sa i < 0) : -(n : Int) < sa i ∧ SubL T n lo M K kE (i + 1) (upd sa i (- sa i)) P := by
  rcases I.z i hi (by omega) with ⟨_, e, he, h1⟩ | ⟨k, hk, h2, h3, _⟩
  · have := I.aE e he (by omega)
    rw [h1] at this; omega
  have h4 := I.aL k hk h2 (by omega)
  rw [h3] at h4
  have hm : 0 < k ∧ isS T n (k - 1) := by
    refine Classical.byContradiction fun hn => ?_
    rw [mL_pos hn] at h4; omega
  rw [mL_neg hm.1 hm.2] at h4
  have hkn := hk.2.1
  refine ⟨by omega, ?_⟩
  have none : ∀ k, DL T n lo k → posL T n lo K kE (k + 1) ≠ i + 1 := by
    intro k' hk' e
    have := posL_inj H (succ_item hk') (DL_item hk) (by rw [e, posL_L hk, h3])
    subst this
    exact hk'.2.2 (by simpa using hm.2)
  have hs : - sa i = (k : Int) := by omega
  rw [hs]
  refine ⟨fun c hc => by rw [cL_none none]; exact I.p c hc, ?_, ?_, ?_, ?_⟩
  · intro e he h'
    rw [upd_other _ _ (by omega)]
    exact I.aE e he (by omega)
  · intro k' hk' h1 h2
    rw [upd_other _ _ (by omega)]
    exact I.aL k' hk' (by have := none k' hk'; omega) (by omega)
  · intro k' hk' h1 h2' h3'
    by_cases e : slotL T n lo K k' = i
    · have := slotL_inj H hk' hk (by omega)
      subst this
      rw [e, upd_same]
    · rw [upd_other _ _ e]
      exact I.aD k' hk' (by omega) h2' h3'
  · intro x hx hne
    by_cases e : x = i
    · exact .inr ⟨k, hk, by omega, by omega, fun _ => hm⟩
    · rw [upd_other _ _ e] at hne
      rcases I.z x hx hne with ⟨h1, h2⟩ | ⟨k, h1, h2, h3, h4⟩
      · exact .inl ⟨by omega, h2⟩
      · exact .inr ⟨k, h1, by omega, h3, fun hh => h4 (by omega)⟩

/-- One place more is laid: the pointer of its number moves on. -/
def bump (P : Nat → Int) (c : Nat) : Nat → Int := fun d => if d = c then P c + 1 else P d
def drop1 (P : Nat → Int) (c : Nat) : Nat → Int := fun d => if d = c then P c - 1 else P d

theorem SubL.work (H : Keys T n lo K kE) (hM : ∀ i, i < n → T i < M) (hlo : LMS T n lo) (I : SubL T n lo M K kE i sa P) (hi : i < n) (h : 0 < sa i) :
    ∃ k s : Nat, sa i = (k : Int) + 1 ∧ 1 ≤ k ∧ k < n ∧ T k < M ∧ P (T k) = s ∧ i < s ∧ s < n ∧
      SubL T n lo M K kE (i + 1) (upd (upd sa i 0) s (if T (k - 1) < T k then -(k : Int) else k)) (bump P (T k)) := by
  have hitem : ∃ k, DL T n lo k ∧ posL T n lo K kE (k + 1) = i + 1 ∧ sa i = (k : Int) + 1 := by
    rcases I.z i hi (by omega) with ⟨_, e, he, h1⟩ | ⟨k, hk, h2, h3, _⟩
    · have h2 := I.aE e he (by omega)
      have h3 := he.2
      refine ⟨e - 1, E_pred he, ?_, ?_⟩
      · rw [show e - 1 + 1 = e by omega, posL_E he, h1]
      · rw [h1] at h2; omega
    · have h4 := I.aL k hk h2 (by omega)
      rw [h3] at h4
      have hlk : lo ≠ k := fun e => hk.2.2 (e ▸ LMS_S hlo)
      have hl1 := hk.1
      have hm : ¬ (0 < k ∧ isS T n (k - 1)) := fun hm => by rw [mL_neg hm.1 hm.2] at h4; omega
      rw [mL_pos hm] at h4
      have hkn := hk.2.1
      refine ⟨k - 1, ⟨by omega, by omega, fun hs => hm ⟨by omega, hs⟩⟩, ?_, by omega⟩
      rw [show k - 1 + 1 = k by omega, posL_L hk, h3]
  obtain ⟨k, hk, hp, hv⟩ := hitem
  have hkn := hk.2.1
  have hk0 : lo < k := by
    have h1 := hk.1
    have hlk : lo ≠ k := fun e => hk.2.2 (e ▸ LMS_S hlo)
    omega
  have hnow := slotL_now H hk hp
  have hdown := slotL_down H hk
  have hlt := slotL_lt_n (K := K) hk
  refine ⟨k, slotL T n lo K k, hv, by omega, hkn, hM k hkn, by rw [I.p _ (hM k hkn), hnow]; omega, by omega, hlt, ?_⟩
  have hmark : (if T (k - 1) < T k then -(k : Int) else k) = mL T n k := by
    have := pred_S_of_L (T := T) hkn (by omega) hk.2.2
    unfold mL
    simp only [this, show 0 < k by omega, true_and]
  rw [hmark]
  refine ⟨?_, ?_, ?_, ?_, ?_⟩
  · intro c hc
    unfold bump
    rw [cL_some H hk hp]
    by_cases e : c = T k
    · rw [if_pos e, if_pos e, ← e, I.p c hc]; omega
    · rw [if_neg e, if_neg e, I.p c hc]; omega
  · intro e he h'
    rw [upd_other _ _ (slotE_ne_L H he hk), upd_other _ _ (by omega)]
    exact I.aE e he (by omega)
  · intro k' hk' h1 h2
    by_cases e : k' = k
    · subst e; rw [upd_same]
    · rw [upd_other _ _ (fun hh => e (slotL_inj H hk' hk hh)), upd_other _ _ (by omega)]
      refine I.aL k' hk' ?_ (by omega)
      by_cases e2 : posL T n lo K kE (k' + 1) = i + 1
      · have := posL_inj H (succ_item hk') (succ_item hk) (by omega)
        omega
      · omega
  · intro k' hk' h1 h2 h3
    rw [upd_other _ _ (by omega)]
    by_cases e : slotL T n lo K k' = i
    · exfalso
      have h5 := I.aL k' hk' (by have := slotL_down H hk'; omega) (by omega)
      rw [e, mL_neg h2 h3] at h5
      omega
    · rw [upd_other _ _ e]
      exact I.aD k' hk' (by omega) h2 h3
  · intro x hx hne
    by_cases e : x = slotL T n lo K k
    · exact .inr ⟨k, hk, by omega, e.symm, fun _ => by omega⟩
    · rw [upd_other _ _ e] at hne
      have e2 : x ≠ i := fun e2 => hne (by rw [e2, upd_same])
      rw [upd_other _ _ e2] at hne
      rcases I.z x hx hne with ⟨h1, h2⟩ | ⟨k, h1, h2, h3, h4⟩
      · exact .inl ⟨by omega, h2⟩
      · exact .inr ⟨k, h1, by omega, h3, fun hh => h4 (by omega)⟩

/-- THE FIRST SCAN of the second phase, at slot i. -/
structure FinL (T : Nat → Nat) (n M : Nat) (K kE : Nat → List Nat) (i : Nat) (sa P : Nat → Int) : Prop where
  p : ∀ c, c < M → P c = start T n c + cL T n 0 K kE i c
  aE : ∀ e, E T n 0 e → sa (slotE T n 0 kE e) = e
  aL : ∀ k, DL T n 0 k → posL T n 0 K kE (k + 1) ≤ i → sa (slotL T n 0 K k) = mL T n k
  z : ∀ x, x < n → sa x ≠ 0 → (∃ e, E T n 0 e ∧ slotE T n 0 kE e = x) ∨ (∃ k, DL T n 0 k ∧ posL T n 0 K kE (k + 1) ≤ i ∧ slotL T n 0 K k = x)

theorem FinL.skip (H : Keys T n 0 K kE) (I : FinL T n M K kE i sa P) (hi : i < n) (h : sa i ≤ 0) : FinL T n M K kE (i + 1) sa P := by
  have none : ∀ k, DL T n 0 k → posL T n 0 K kE (k + 1) ≠ i + 1 := by
    intro k hk e
    rcases DL_succ hk with h' | h' | ⟨h', _⟩
    · rw [h', posL_n] at e; omega
    · rw [posL_E h'] at e
      have := I.aE _ h'
      rw [show slotE T n 0 kE (k + 1) = i by omega] at this
      omega
    · rw [posL_L h'] at e
      have h1 := slotL_down H h'
      have := I.aL _ h' (by omega)
      rw [show slotL T n 0 K (k + 1) = i by omega, mL_pos (fun hh => hk.2.2 (by simpa using hh.2))] at this
      omega
  refine ⟨fun c hc => by rw [cL_none none]; exact I.p c hc, I.aE, fun k hk h1 => I.aL k hk (by have := none k hk; omega), ?_⟩
  intro x hx hne
  rcases I.z x hx hne with h1 | ⟨k, h1, h2, h3⟩
  · exact .inl h1
  · exact .inr ⟨k, h1, by omega, h3⟩

theorem FinL.work (H : Keys T n 0 K kE) (hM : ∀ i, i < n → T i < M) (I : FinL T n M K kE i sa P) (hi : i < n) (h : 0 < sa i) :
    ∃ k s : Nat, sa i = (k : Int) + 1 ∧ k < n ∧ T k < M ∧ P (T k) = s ∧ i < s ∧ s < n ∧
      FinL T n M K kE (i + 1) (upd sa s (if 0 < k ∧ T (k - 1) < T k then -(k : Int) else k)) (bump P (T k)) := by
  have hitem : ∃ k, DL T n 0 k ∧ posL T n 0 K kE (k + 1) = i + 1 ∧ sa i = (k : Int) + 1 := by
    rcases I.z i hi (by omega) with ⟨e, he, h1⟩ | ⟨k, hk, h2, h3⟩
    · have h2 := I.aE e he
      have h3 := he.2
      refine ⟨e - 1, E_pred he, ?_, ?_⟩
      · rw [show e - 1 + 1 = e by omega, posL_E he, h1]
      · rw [h1] at h2; omega
    · have h4 := I.aL k hk h2
      rw [h3] at h4
      have hm : ¬ (0 < k ∧ isS T n (k - 1)) := fun hm => by rw [mL_neg hm.1 hm.2] at h4; omega
      rw [mL_pos hm] at h4
      have hkn := hk.2.1
      refine ⟨k - 1, ⟨by omega, by omega, fun hs => hm ⟨by omega, hs⟩⟩, ?_, by omega⟩
      rw [show k - 1 + 1 = k by omega, posL_L hk, h3]
  obtain ⟨k, hk, hp, hv⟩ := hitem
  have hkn := hk.2.1
  have hnow := slotL_now H hk hp
  have hdown := slotL_down H hk
  have hlt := slotL_lt_n (K := K) hk
  refine ⟨k, slotL T n 0 K k, hv, hkn, hM k hkn, by rw [I.p _ (hM k hkn), hnow]; omega, by omega, hlt, ?_⟩
  have hmark : (if 0 < k ∧ T (k - 1) < T k then -(k : Int) else k) = mL T n k := by
    unfold mL
    by_cases h0 : 0 < k
    · have := pred_S_of_L (T := T) hkn h0 hk.2.2
      simp only [this, h0, true_and]
    · simp only [h0, false_and]
  rw [hmark]
  refine ⟨?_, ?_, ?_, ?_⟩
  · intro c hc
    unfold bump
    rw [cL_some H hk hp]
    by_cases e : c = T k
    · rw [if_pos e, if_pos e, ← e, I.p c hc]; omega
    · rw [if_neg e, if_neg e, I.p c hc]; omega
  · intro e he
    rw [upd_other _ _ (slotE_ne_L H he hk)]
    exact I.aE e he
  · intro k' hk' h1
    by_cases e : k' = k
    · subst e; rw [upd_same]
    · rw [upd_other _ _ (fun hh => e (slotL_inj H hk' hk hh))]
      refine I.aL k' hk' ?_
      by_cases e2 : posL T n 0 K kE (k' + 1) = i + 1
      · have := posL_inj H (succ_item hk') (succ_item hk) (by omega)
        omega
      · omega
  · intro x hx hne
    by_cases e : x = slotL T n 0 K k
    · exact .inr ⟨k, hk, by omega, e.symm⟩
    · rw [upd_other _ _ e] at hne
      rcases I.z x hx hne with h1 | ⟨k, h1, h2, h3⟩
      · exact .inl h1
      · exact .inr ⟨k, h1, by omega, h3⟩

/- THE SECOND SCANS -/
noncomputable def cS (T : Nat → Nat) (n lo : Nat) (K : Nat → List Nat) (i c : Nat) : Nat := cnt (fun k => (DS T n lo k ∧ T k = c) ∧ i ≤ posS T n lo K (k + 1)) n

theorem cS_none {c : Nat} (h : ∀ k, DS T n lo k → posS T n lo K (k + 1) ≠ i) : cS T n lo K i c = cS T n lo K (i + 1) c :=
  cnt_congr fun k _ => ⟨fun ⟨h1, h2⟩ => ⟨h1, by have := h k h1.1; omega⟩, fun ⟨h1, h2⟩ => ⟨h1, by omega⟩⟩

theorem DS_bd {k : Nat} (h : DS T n lo k) : lo ≤ k + 1 ∧ k + 1 < n := ⟨by have := h.1; omega, (DS_succ h).1⟩

theorem cS_some (H : Keys T n lo K kE) {c k : Nat} (hk : DS T n lo k) (h : posS T n lo K (k + 1) = i) :
    cS T n lo K i c = cS T n lo K (i + 1) c + if c = T k then 1 else 0 := by
  have uni : ∀ k', DS T n lo k' → posS T n lo K (k' + 1) = i → k' = k := fun k' h1 h2 => by
    have := posS_inj H (DS_bd h1).1 (DS_bd h1).2 (DS_bd hk).1 (DS_bd hk).2 (by omega)
    omega
  by_cases hc : c = T k
  · rw [if_pos hc]
    refine cnt_insert (a := k) hk.2.1 (fun k' _ => ?_) (fun hh => by omega)
    constructor
    · rintro ⟨h1, h2⟩
      by_cases e : posS T n lo K (k' + 1) = i
      · exact .inr (uni k' h1.1 e)
      · exact .inl ⟨h1, by omega⟩
    · rintro (⟨h1, h2⟩ | rfl)
      · exact ⟨h1, by omega⟩
      · exact ⟨⟨hk, hc.symm⟩, by omega⟩
  · rw [if_neg hc, Nat.add_zero]
    refine cnt_congr fun k' _ => ⟨fun ⟨h1, h2⟩ => ⟨h1, ?_⟩, fun ⟨h1, h2⟩ => ⟨h1, by omega⟩⟩
    by_cases e : posS T n lo K (k' + 1) = i
    · have := uni k' h1.1 e
      subst this
      exact (hc h1.2.symm).elim
    · omega

theorem slotS_now (H : Keys T n lo K kE) {k : Nat} (hk : DS T n lo k) (h : posS T n lo K (k + 1) = i) : slotS T n lo K k + 1 + cS T n lo K (i + 1) (T k) = start T n (T k + 1) := by
  rw [← slotS_eq H hk, h]
  congr 1
theorem slotS_up (H : Keys T n lo K kE) {k : Nat} (hk : DS T n lo k) : slotS T n lo K k < posS T n lo K (k + 1) := by
  have := posS_up H hk
  rwa [posS_S hk] at this
theorem slotS_ne_L (H : Keys T n lo K kE) {e k : Nat} (he : DS T n lo e) (hk : DL T n lo k) : slotS T n lo K e ≠ slotL T n lo K k := by
  intro h
  have := posS_inj H he.1 he.2.1 hk.1 hk.2.1 (by rw [posS_S he, posS_L hk, h])
  subst this
  exact hk.2.2 he.2.2
theorem slotS_inj (H : Keys T n lo K kE) {k k' : Nat} (hk : DS T n lo k) (hk' : DS T n lo k') (h : slotS T n lo K k = slotS T n lo K k') : k = k' :=
  posS_inj H hk.1 hk.2.1 hk'.1 hk'.2.1 (by rw [posS_S hk, posS_S hk', h])

noncomputable def mS (T : Nat → Nat) (n k : Nat) : Int := if isS T n (k - 1) then (k : Int) else -(k : Int)
noncomputable def tops (T : Nat → Nat) (n lo : Nat) (K : Nat → List Nat) (i : Nat) : Nat := cnt (fun p => LMS T n p ∧ i ≤ slotS T n lo K p) n

/-- THE SECOND SCAN of the first phase: the slots from i on are done. -/
structure SubS (T : Nat → Nat) (n lo M : Nat) (K : Nat → List Nat) (i : Nat) (sa P : Nat → Int) (top : Nat) : Prop where
  p : ∀ c, c < M → P c + cS T n lo K i c = start T n (c + 1)
  tp : top + tops T n lo K i = n
  le : i ≤ top
  aL : ∀ k, DL T n lo k → lo < k → isS T n (k - 1) → slotL T n lo K k < i → sa (slotL T n lo K k) = k
  aS : ∀ k, DS T n lo k → i ≤ posS T n lo K (k + 1) → slotS T n lo K k < i → sa (slotS T n lo K k) = mS T n k
  z : ∀ x, x < i → sa x ≠ 0 → (∃ k, DL T n lo k ∧ lo < k ∧ isS T n (k - 1) ∧ slotL T n lo K k = x) ∨ (∃ k, DS T n lo k ∧ i ≤ posS T n lo K (k + 1) ∧ slotS T n lo K k = x)
  t : ∀ p, LMS T n p → i ≤ slotS T n lo K p → sa (n - 1 - tops T n lo K (slotS T n lo K p + 1)) = p
  z2 : ∀ x, i ≤ x → x < top → sa x = 0

/-- What holds of phase one: lo is the first LMS place. -/
structure First (T : Nat → Nat) (n lo : Nat) : Prop where
  lms : LMS T n lo
  least : ∀ p, LMS T n p → lo ≤ p

theorem First.DS (F : First T n lo) {p : Nat} (h : LMS T n p) : DS T n lo p := ⟨F.least p h, h.2.1, LMS_S h⟩
theorem First.pos (F : First T n lo) : 0 < lo := F.lms.1

theorem SubS.skip (H : Keys T n lo K kE) (F : First T n lo) {top : Nat} (I : SubS T n lo M K (i + 1) sa P top) (h : sa i = 0) : SubS T n lo M K i sa P top := by
  have none : ∀ k, DS T n lo k → posS T n lo K (k + 1) ≠ i := by
    intro k hk e
    have hp := F.pos
    rcases D_cases (T := T) (DS_bd hk).1 (DS_bd hk).2 with h' | h'
    · rw [posS_S h'] at e
      have h1 := slotS_up H h'
      have := I.aS _ h' (by omega) (by omega)
      rw [e, h] at this
      unfold mS at this
      split at this <;> omega
    · rw [posS_L h'] at e
      have := I.aL _ h' (by have := hk.1; omega) (by simpa using hk.2.2) (by omega)
      rw [e, h] at this
      omega
  have notop : ∀ p, LMS T n p → slotS T n lo K p ≠ i := by
    intro p hp e
    have h1 := slotS_up H (F.DS hp)
    have := I.aS _ (F.DS hp) (by omega) (by omega)
    have h0 := hp.1
    rw [e, h, mS, if_neg hp.2.2.2] at this
    omega
  have et : tops T n lo K i = tops T n lo K (i + 1) := cnt_congr fun k _ => ⟨fun ⟨h1, h2⟩ => ⟨h1, by have := notop k h1; omega⟩, fun ⟨h1, h2⟩ => ⟨h1, by omega⟩⟩
  refine ⟨fun c hc => by rw [cS_none none]; exact I.p c hc, by rw [et]; exact I.tp, by have := I.le; omega, fun k a b c d => I.aL k a b c (by omega), ?_, ?_, ?_, ?_⟩
  · intro k hk h1 h2
    exact I.aS k hk (by have := none k hk; omega) (by omega)
  · intro x hx hne
    rcases I.z x (by omega) hne with h1 | ⟨k, h1, h2, h3⟩
    · exact .inl h1
    · exact .inr ⟨k, h1, by omega, h3⟩
  · intro p hp h1
    exact I.t p hp (by have := notop p hp; omega)
  · intro x h1 h2
    by_cases e : x = i
    · rw [e]; exact h
    · exact I.z2 x (by omega) h2

theorem SubS.neg (H : Keys T n lo K kE) (F : First T n lo) {top : Nat} (I : SubS T n lo M K (i + 1) sa P top) (h : sa i < 0) :
    -(n : Int) < sa i ∧ i < top ∧ top ≤ n ∧ SubS T n lo M K i (upd (upd sa i 0) (top - 1) (- sa i)) P (top - 1) := by
  rcases I.z i (by omega) (by omega) with ⟨k, hk, h1, h2, h3⟩ | ⟨k, hk, h1, h2⟩
  · have := I.aL k hk h1 h2 (by omega)
    rw [h3] at this; omega
  have hv := I.aS k hk h1 (by omega)
  rw [h2] at hv
  have hs : ¬ isS T n (k - 1) := fun hs => by rw [mS, if_pos hs] at hv; omega
  rw [mS, if_neg hs] at hv
  have hkn := hk.2.1
  have hp0 := F.pos
  have hk1 := hk.1
  have hl : LMS T n k := ⟨by omega, hkn, hk.2.2, hs⟩
  have hle := I.le
  have htp := I.tp
  have none : ∀ k, DS T n lo k → posS T n lo K (k + 1) ≠ i := by
    intro k' hk' e
    have := posS_inj H (DS_bd hk').1 (DS_bd hk').2 hk.1 hkn (by rw [e, posS_S hk, h2])
    subst this
    exact hs (by simpa using hk'.2.2)
  have et : tops T n lo K i = tops T n lo K (i + 1) + 1 := by
    refine cnt_insert (a := k) hkn (fun p hp => ?_) (fun hh => by omega)
    constructor
    · rintro ⟨h3, h4⟩
      by_cases e : slotS T n lo K p = i
      · exact .inr (slotS_inj H (F.DS h3) hk (by omega))
      · exact .inl ⟨h3, by omega⟩
    · rintro (⟨h3, h4⟩ | rfl)
      · exact ⟨h3, by omega⟩
      · exact ⟨hl, by omega⟩
  have hs' : - sa i = (k : Int) := by omega
  rw [hs']
  refine ⟨by omega, by omega, by omega, ?_⟩
  refine ⟨fun c hc => by rw [cS_none none]; exact I.p c hc, by omega, by omega, ?_, ?_, ?_, ?_, ?_⟩
  · intro k' a b c d
    rw [upd_other _ _ (by omega), upd_other _ _ (by omega)]
    exact I.aL k' a b c (by omega)
  · intro k' a b c
    rw [upd_other _ _ (by omega), upd_other _ _ (by omega)]
    exact I.aS k' a (by have := none k' a; omega) (by omega)
  · intro x hx hne
    rw [upd_other _ _ (by omega), upd_other _ _ (by omega)] at hne
    rcases I.z x (by omega) hne with h1 | ⟨k, h1, h2, h3⟩
    · exact .inl h1
    · exact .inr ⟨k, h1, by omega, h3⟩
  · intro p hp h1
    by_cases e : slotS T n lo K p = i
    · have := slotS_inj H (F.DS hp) hk (by omega)
      subst this
      rw [e, show n - 1 - tops T n lo K (i + 1) = top - 1 by omega, upd_same]
    · have hlt : tops T n lo K (slotS T n lo K p + 1) < tops T n lo K (i + 1) :=
        cnt_lt (a := p) (fun q _ hq => ⟨hq.1, by omega⟩) hp.2.1 ⟨hp, by omega⟩ (fun hh => by omega)
      rw [upd_other _ _ (by omega), upd_other _ _ (by omega)]
      exact I.t p hp (by omega)
  · intro x h1 h3
    rw [upd_other _ _ (by omega)]
    by_cases e : x = i
    · rw [e, upd_same]
    · rw [upd_other _ _ e]
      exact I.z2 x (by omega) (by omega)

theorem SubS.work (H : Keys T n lo K kE) (hM : ∀ i, i < n → T i < M) (F : First T n lo) {top : Nat} (I : SubS T n lo M K (i + 1) sa P top) (h : 0 < sa i) :
    ∃ k s : Nat, sa i = (k : Int) + 1 ∧ 1 ≤ k ∧ k < n ∧ T k < M ∧ P (T k) = (s : Int) + 1 ∧ s < i ∧
      SubS T n lo M K i (upd (upd sa i 0) s (if T k < T (k - 1) then -(k : Int) else k)) (drop1 P (T k)) top := by
  have hp0 := F.pos
  have hitem : ∃ k, DS T n lo k ∧ posS T n lo K (k + 1) = i ∧ sa i = (k : Int) + 1 := by
    rcases I.z i (by omega) (by omega) with ⟨k, hk, h1, h2, h3⟩ | ⟨k, hk, h1, h2⟩
    · have h4 := I.aL k hk h1 h2 (by omega)
      have hkn := hk.2.1
      refine ⟨k - 1, ⟨by omega, by omega, h2⟩, ?_, ?_⟩
      · rw [show k - 1 + 1 = k by omega, posS_L hk, h3]
      · rw [h3] at h4; omega
    · have h4 := I.aS k hk h1 (by omega)
      rw [h2] at h4
      have hs : isS T n (k - 1) := Classical.byContradiction fun hs => by rw [mS, if_neg hs] at h4; omega
      rw [mS, if_pos hs] at h4
      have hkn := hk.2.1
      have hk1 := hk.1
      have hne : lo ≠ k := fun e => F.lms.2.2.2 (e ▸ hs)
      refine ⟨k - 1, ⟨by omega, by omega, hs⟩, ?_, by omega⟩
      rw [show k - 1 + 1 = k by omega, posS_S hk, h2]
  obtain ⟨k, hk, hp, hv⟩ := hitem
  have hkn := hk.2.1
  have hk1 := hk.1
  have hnow := slotS_now H hk hp
  have hup := slotS_up H hk
  have hPk := I.p _ (hM k hkn)
  have hle := I.le
  have htp := I.tp
  refine ⟨k, slotS T n lo K k, hv, by omega, hkn, hM k hkn, by omega, by omega, ?_⟩
  have hmark : (if T k < T (k - 1) then -(k : Int) else k) = mS T n k := by
    have := pred_S_of_S (T := T) hkn (by omega) hk.2.2
    unfold mS
    by_cases hc : T k < T (k - 1)
    · rw [if_pos hc, if_neg (fun h => by have := this.1 h; omega)]
    · rw [if_neg hc, if_pos (this.2 (by omega))]
  rw [hmark]
  have uni : ∀ k', DS T n lo k' → posS T n lo K (k' + 1) = i → k' = k := fun k' h1 h2 => by
    have := posS_inj H (DS_bd h1).1 (DS_bd h1).2 (DS_bd hk).1 (DS_bd hk).2 (by omega)
    omega
  have notop : ∀ p, LMS T n p → slotS T n lo K p ≠ i := by
    intro p hp' e
    have h1 := slotS_up H (F.DS hp')
    have := I.aS _ (F.DS hp') (by omega) (by omega)
    have h0 := hp'.1
    rw [e, mS, if_neg hp'.2.2.2] at this
    omega
  have et : tops T n lo K i = tops T n lo K (i + 1) := cnt_congr fun k _ => ⟨fun ⟨h1, h2⟩ => ⟨h1, by have := notop k h1; omega⟩, fun ⟨h1, h2⟩ => ⟨h1, by omega⟩⟩
  refine ⟨?_, by omega, by omega, ?_, ?_, ?_, ?_, ?_⟩
  · intro c hc
    unfold drop1
    have := I.p c hc
    rw [cS_some H hk hp]
    by_cases e : c = T k
    · rw [if_pos e, if_pos e, ← e]; omega
    · rw [if_neg e, if_neg e]; omega
  · intro k' a b c d
    rw [upd_other _ _ (fun e => slotS_ne_L H hk a e.symm), upd_other _ _ (by omega)]
    exact I.aL k' a b c (by omega)
  · intro k' a b c
    by_cases e : k' = k
    · subst e; rw [upd_same]
    · rw [upd_other _ _ (fun e2 => e (slotS_inj H a hk e2)), upd_other _ _ (by omega)]
      refine I.aS k' a ?_ (by omega)
      by_cases e2 : posS T n lo K (k' + 1) = i
      · exact (e (uni k' a e2)).elim
      · omega
  · intro x hx hne
    by_cases e : x = slotS T n lo K k
    · exact .inr ⟨k, hk, by omega, e.symm⟩
    · rw [upd_other _ _ e, upd_other _ _ (by omega)] at hne
      rcases I.z x (by omega) hne with h1 | ⟨k, h1, h2, h3⟩
      · exact .inl h1
      · exact .inr ⟨k, h1, by omega, h3⟩
  · intro p hp' h1
    have h2 := notop p hp'
    have h3 : tops T n lo K (slotS T n lo K p + 1) < tops T n lo K (i + 1) :=
      cnt_lt (a := p) (fun q _ hq => ⟨hq.1, by omega⟩) hp'.2.1 ⟨hp', by omega⟩ (fun hh => by omega)
    rw [upd_other _ _ (by omega), upd_other _ _ (by omega)]
    exact I.t p hp' (by omega)
  · intro x h1 h3
    rw [upd_other _ _ (by omega)]
    by_cases e : x = i
    · rw [e, upd_same]
    · rw [upd_other _ _ e]
      exact I.z2 x (by omega) h3

/-- THE SECOND SCAN of the second phase: the slots from i on are done. -/
structure FinS (T : Nat → Nat) (n M : Nat) (K : Nat → List Nat) (i : Nat) (sa P : Nat → Int) : Prop where
  p : ∀ c, c < M → P c + cS T n 0 K i c = start T n (c + 1)
  aL : ∀ k, DL T n 0 k → sa (slotL T n 0 K k) = if slotL T n 0 K k < i then mL T n k else (k : Int)
  aS : ∀ k, DS T n 0 k → i ≤ posS T n 0 K (k + 1) → sa (slotS T n 0 K k) = if slotS T n 0 K k < i then mL T n k else (k : Int)

theorem FinS.at (H : Keys T n 0 K kE) (I : FinS T n M K (i + 1) sa P) (hi : i < n) : ∃ k, k < n ∧ posS T n 0 K k = i ∧ sa i = mL T n k := by
  obtain ⟨k, hk, e⟩ := inj_surj (n := n) (posS T n 0 K) (fun x hx => posS_lt_n (Nat.zero_le _) hx) (fun x y hx hy h => posS_inj H (Nat.zero_le _) hx (Nat.zero_le _) hy h) i hi
  refine ⟨k, hk, e, ?_⟩
  rcases D_cases (T := T) (Nat.zero_le k) hk with h' | h'
  · have h1 := slotS_up H h'
    rw [posS_S h'] at e
    have := I.aS k h' (by omega)
    rw [e, if_pos (by omega)] at this
    exact this
  · rw [posS_L h'] at e
    have := I.aL k h'
    rw [e, if_pos (by omega)] at this
    exact this

theorem FinS.skip (H : Keys T n 0 K kE) (I : FinS T n M K (i + 1) sa P) (hi : i < n) (h : 0 ≤ sa i) : FinS T n M K i sa P := by
  obtain ⟨k0, hk0, e0, hv⟩ := I.at H hi
  have hm : ¬ (0 < k0 ∧ isS T n (k0 - 1)) := fun hm => by rw [mL_neg hm.1 hm.2] at hv; omega
  rw [mL_pos hm] at hv
  have none : ∀ k, DS T n 0 k → posS T n 0 K (k + 1) ≠ i := by
    intro k hk e
    have := posS_inj H (Nat.zero_le _) (DS_bd hk).2 (Nat.zero_le _) hk0 (by omega)
    subst this
    exact hm ⟨by omega, by simpa using hk.2.2⟩
  refine ⟨fun c hc => by rw [cS_none none]; exact I.p c hc, ?_, ?_⟩
  · intro k hk
    by_cases e : slotL T n 0 K k = i
    · have := posS_inj H (Nat.zero_le _) hk.2.1 (Nat.zero_le _) hk0 (by rw [posS_L hk]; omega)
      subst this
      rw [e, if_neg (by omega), hv]
    · rw [I.aL k hk]
      by_cases e2 : slotL T n 0 K k < i
      · rw [if_pos (by omega), if_pos e2]
      · rw [if_neg (by omega), if_neg e2]
  · intro k hk h1
    by_cases e : slotS T n 0 K k = i
    · have := posS_inj H (Nat.zero_le _) hk.2.1 (Nat.zero_le _) hk0 (by rw [posS_S hk]; omega)
      subst this
      rw [e, if_neg (by omega), hv]
    · rw [I.aS k hk (by have := none k hk; omega)]
      by_cases e2 : slotS T n 0 K k < i
      · rw [if_pos (by omega), if_pos e2]
      · rw [if_neg (by omega), if_neg e2]

theorem FinS.work (H : Keys T n 0 K kE) (hM : ∀ i, i < n → T i < M) (I : FinS T n M K (i + 1) sa P) (hi : i < n) (h : sa i < 0) :
    ∃ k s : Nat, sa i = -((k : Int) + 1) ∧ k + 1 < n ∧ T k < M ∧ P (T k) = (s : Int) + 1 ∧ s < i ∧
      FinS T n M K i (upd (upd sa i ((k : Int) + 1)) s (if 0 < k ∧ T (k - 1) ≤ T k then -(k : Int) else k)) (drop1 P (T k)) := by
  obtain ⟨k0, hk0, e0, hv⟩ := I.at H hi
  have hm : 0 < k0 ∧ isS T n (k0 - 1) := Classical.byContradiction fun hm => by rw [mL_pos hm] at hv; omega
  rw [mL_neg hm.1 hm.2] at hv
  obtain ⟨k, rfl⟩ : ∃ k, k0 = k + 1 := ⟨k0 - 1, by omega⟩
  have hk : DS T n 0 k := ⟨Nat.zero_le _, by omega, by simpa using hm.2⟩
  have hkn := hk.2.1
  have hnow := slotS_now H hk e0
  have hup := slotS_up H hk
  have hPk := I.p _ (hM k hkn)
  refine ⟨k, slotS T n 0 K k, by omega, hk0, hM k hkn, by omega, by omega, ?_⟩
  have hmark : (if 0 < k ∧ T (k - 1) ≤ T k then -(k : Int) else k) = mL T n k := by
    unfold mL
    by_cases h0 : 0 < k
    · have := pred_S_of_S (T := T) hkn h0 hk.2.2
      simp only [this, h0, true_and]
    · simp only [h0, false_and]
  rw [hmark]
  have uni : ∀ k', DS T n 0 k' → posS T n 0 K (k' + 1) = i → k' = k := fun k' h1 h2 => by
    have := posS_inj H (DS_bd h1).1 (DS_bd h1).2 (DS_bd hk).1 (DS_bd hk).2 (by omega)
    omega
  refine ⟨?_, ?_, ?_⟩
  · intro c hc
    unfold drop1
    have := I.p c hc
    rw [cS_some H hk e0]
    by_cases e : c = T k
    · rw [if_pos e, if_pos e, ← e]; omega
    · rw [if_neg e, if_neg e]; omega
  · intro k' hk'
    rw [upd_other _ _ (fun e => slotS_ne_L H hk hk' e.symm)]
    by_cases e : slotL T n 0 K k' = i
    · have := posS_inj H (Nat.zero_le _) hk'.2.1 (Nat.zero_le _) hk0 (by rw [posS_L hk']; omega)
      subst this
      rw [e, upd_same, if_neg (by omega)]; omega
    · rw [upd_other _ _ e, I.aL k' hk']
      by_cases e2 : slotL T n 0 K k' < i
      · rw [if_pos (by omega), if_pos e2]
      · rw [if_neg (by omega), if_neg e2]
  · intro k' hk' h1
    by_cases e3 : k' = k
    · subst e3; rw [upd_same, if_pos (by omega)]
    · rw [upd_other _ _ (fun e => e3 (slotS_inj H hk' hk e))]
      have h2 : posS T n 0 K (k' + 1) ≠ i := fun e => e3 (uni k' hk' e)
      by_cases e : slotS T n 0 K k' = i
      · have := posS_inj H (Nat.zero_le _) hk'.2.1 (Nat.zero_le _) hk0 (by rw [posS_S hk']; omega)
        subst this
        rw [e, upd_same, if_neg (by omega)]; omega
      · rw [upd_other _ _ e, I.aS k' hk' (by omega)]
        by_cases e2 : slotS T n 0 K k' < i
        · rw [if_pos (by omega), if_pos e2]
        · rw [if_neg (by omega), if_neg e2]
end
end Sais

/- The scans' beginnings and ends; the keys of the two phases; laying the LMS places at the ends of their buckets. -/
set_option linter.unusedVariables false
namespace Sais
open Classical

section
variable {T : Nat → Nat} {n lo M i : Nat} {K kE : Nat → List Nat} {sa P : Nat → Int}

theorem last_L (hn : 0 < n) : ¬ isS T n (n - 1) := fun h => by have := isS_lt h; omega
theorem DL_last (H : Keys T n lo K kE) : DL T n lo (n - 1) := ⟨by have := H.len; omega, by have := H.len; omega, last_L (by have := H.len; omega)⟩

theorem posL_zero {k : Nat} (hk : DL T n lo k) (h : posL T n lo K kE (k + 1) ≤ 0) : k = n - 1 := by
  rcases DL_succ hk with h' | h' | ⟨h', _⟩
  · omega
  · rw [posL_E h'] at h; omega
  · rw [posL_L h'] at h; omega

theorem cL_zero (H : Keys T n lo K kE) (c : Nat) : cL T n lo K kE 0 c = if c = T (n - 1) then 1 else 0 := by
  have hd := DL_last H
  have hn := H.len
  have e0 : posL T n lo K kE (n - 1 + 1) = 0 := by rw [show n - 1 + 1 = n by omega, posL_n]
  by_cases hc : c = T (n - 1)
  · rw [if_pos hc, cL, cnt_insert (p := fun _ => False) (a := n - 1) (by omega) (fun k _ => ?_) (fun h => h), cnt_false (fun _ _ h => h)]
    constructor
    · rintro ⟨h1, h2⟩; exact .inr (posL_zero h1.1 h2)
    · rintro (h | rfl)
      · exact h.elim
      · exact ⟨⟨hd, hc.symm⟩, by omega⟩
  · rw [if_neg hc, cL]
    refine cnt_false fun k _ h => ?_
    have := posL_zero h.1.1 h.2
    subst this
    exact hc h.1.2.symm

/-- The LMS places behind lo lie at the ends of their buckets, and nothing else. -/
structure Laid (T : Nat → Nat) (n lo : Nat) (kE : Nat → List Nat) (sa : Nat → Int) : Prop where
  a : ∀ e, E T n lo e → sa (slotE T n lo kE e) = e
  z : ∀ x, x < n → sa x ≠ 0 → ∃ e, E T n lo e ∧ slotE T n lo kE e = x

theorem SubL.init (H : Keys T n lo K kE) (hM : ∀ i, i < n → T i < M) (hlo : LMS T n lo) (h : Laid T n lo kE sa) (hP : ∀ c, c < M → P c = start T n c) :
    ∃ s : Nat, P (T (n - 1)) = s ∧ s < n ∧ SubL T n lo M K kE 0 (upd sa s (if T (n - 1 - 1) < T (n - 1) then -((n - 1 : Nat) : Int) else ((n - 1 : Nat) : Int))) (bump P (T (n - 1))) := by
  have hn := H.len
  have hd := DL_last H
  have hl0 := hlo.1
  have e0 : posL T n lo K kE (n - 1 + 1) = 0 := by rw [show n - 1 + 1 = n by omega, posL_n]
  have hs := slotL_first H hd e0
  have hlt := slotL_lt_n (K := K) hd
  have hne : lo ≠ n - 1 := fun e => hd.2.2 (e ▸ LMS_S hlo)
  refine ⟨slotL T n lo K (n - 1), by rw [hP _ (hM _ (by omega)), hs], hlt, ?_⟩
  have hmark : (if T (n - 1 - 1) < T (n - 1) then -((n - 1 : Nat) : Int) else ((n - 1 : Nat) : Int)) = mL T n (n - 1) := by
    have := pred_S_of_L (T := T) (n := n) (k := n - 1) (by omega) (by omega) hd.2.2
    unfold mL
    simp only [this, show 0 < n - 1 by omega, true_and]
  rw [hmark]
  refine ⟨?_, ?_, ?_, ?_, ?_⟩
  · intro c hc
    unfold bump
    rw [cL_zero H]
    by_cases e : c = T (n - 1)
    · rw [if_pos e, if_pos e, ← e, hP c hc]; omega
    · rw [if_neg e, if_neg e, hP c hc]; omega
  · intro e he _
    rw [upd_other _ _ (slotE_ne_L H he hd)]
    exact h.a e he
  · intro k hk h1 _
    have := posL_zero hk h1
    subst this
    rw [upd_same]
  · intro k _ h1; omega
  · intro x hx hne
    by_cases e : x = slotL T n lo K (n - 1)
    · exact .inr ⟨n - 1, hd, by omega, e.symm, fun h => by omega⟩
    · rw [upd_other _ _ e] at hne
      exact .inl ⟨Nat.zero_le _, h.z x hx hne⟩

theorem FinL.init (H : Keys T n 0 K kE) (hM : ∀ i, i < n → T i < M) (h2 : 2 ≤ n) (h : Laid T n 0 kE sa) (hP : ∀ c, c < M → P c = start T n c) :
    ∃ s : Nat, P (T (n - 1)) = s ∧ s < n ∧ FinL T n M K kE 0 (upd sa s (if T (n - 1 - 1) < T (n - 1) then -((n - 1 : Nat) : Int) else ((n - 1 : Nat) : Int))) (bump P (T (n - 1))) := by
  have hn := H.len
  have hd := DL_last H
  have e0 : posL T n 0 K kE (n - 1 + 1) = 0 := by rw [show n - 1 + 1 = n by omega, posL_n]
  have hs := slotL_first H hd e0
  have hlt := slotL_lt_n (K := K) hd
  refine ⟨slotL T n 0 K (n - 1), by rw [hP _ (hM _ (by omega)), hs], hlt, ?_⟩
  have hmark : (if T (n - 1 - 1) < T (n - 1) then -((n - 1 : Nat) : Int) else ((n - 1 : Nat) : Int)) = mL T n (n - 1) := by
    have := pred_S_of_L (T := T) (n := n) (k := n - 1) (by omega) (by omega) hd.2.2
    unfold mL
    simp only [this, show 0 < n - 1 by omega, true_and]
  rw [hmark]
  refine ⟨?_, ?_, ?_, ?_⟩
  · intro c hc
    unfold bump
    rw [cL_zero H]
    by_cases e : c = T (n - 1)
    · rw [if_pos e, if_pos e, ← e, hP c hc]; omega
    · rw [if_neg e, if_neg e, hP c hc]; omega
  · intro e he
    rw [upd_other _ _ (slotE_ne_L H he hd)]
    exact h.a e he
  · intro k hk h1
    have := posL_zero hk h1
    subst this
    rw [upd_same]
  · intro x hx hne
    by_cases e : x = slotL T n 0 K (n - 1)
    · exact .inr ⟨n - 1, hd, by omega, e.symm⟩
    · rw [upd_other _ _ e] at hne
      exact .inl (h.z x hx hne)

theorem cS_end (H : Keys T n lo K kE) (c : Nat) : cS T n lo K n c = 0 :=
  cnt_false fun k _ h => by
    have := posS_lt_n (T := T) (K := K) (DS_bd h.1.1).1 (DS_bd h.1.1).2
    have := h.2
    omega

theorem SubS.init (H : Keys T n lo K kE) (F : First T n lo) {P0 : Nat → Int} (I : SubL T n lo M K kE n sa P0) (hP : ∀ c, c < M → P c = start T n (c + 1)) : SubS T n lo M K n sa P n := by
  refine ⟨fun c hc => by rw [cS_end H, hP c hc]; omega, ?_, Nat.le_refl _, ?_, ?_, ?_, ?_, ?_⟩
  · rw [tops, cnt_false (fun p _ h => by have := slotS_lt_n (K := K) (F.DS h.1); have := h.2; omega)]; omega
  · intro k hk h1 h2 h3
    exact I.aD k hk h3 (by omega) h2
  · intro k hk h1 _
    have := posS_lt_n (T := T) (K := K) (DS_bd hk).1 (DS_bd hk).2
    omega
  · intro x hx hne
    rcases I.z x hx hne with ⟨h1, _⟩ | ⟨k, h1, h2, h3, h4⟩
    · omega
    · refine .inl ⟨k, h1, ?_, (h4 hx).2, h3⟩
      have h5 := h1.1
      have : lo ≠ k := fun e => h1.2.2 (e ▸ LMS_S F.lms)
      omega
  · intro p hp h1
    have := slotS_lt_n (K := K) (F.DS hp)
    omega
  · intro x h1 h2; omega

theorem FinS.init (H : Keys T n 0 K kE) {P0 : Nat → Int} (I : FinL T n M K kE n sa P0) (hP : ∀ c, c < M → P c = start T n (c + 1)) : FinS T n M K n sa P := by
  refine ⟨fun c hc => by rw [cS_end H, hP c hc]; omega, ?_, ?_⟩
  · intro k hk
    have h1 := slotL_lt_n (K := K) hk
    have h2 := slotL_down H hk
    rw [if_pos h1]
    exact I.aL k hk (by omega)
  · intro k hk h1
    have := posS_lt_n (T := T) (K := K) (DS_bd hk).1 (DS_bd hk).2
    omega

theorem mL_bd {k : Nat} (h : k < n) : -(n : Int) < mL T n k ∧ mL T n k < n := by
  unfold mL; split <;> omega
theorem FinL.bd (I : FinL T n M K kE i sa P) {x : Nat} (hx : x < n) : -(n : Int) < sa x ∧ sa x < n := by
  by_cases h0 : sa x = 0
  · omega
  · rcases I.z x hx h0 with ⟨e, he, h1⟩ | ⟨k, hk, h2, h3⟩
    · have h4 := I.aE e he
      have h5 := he.1.2.1
      rw [h1] at h4; omega
    · have h4 := I.aL k hk h2
      rw [h3] at h4
      rw [h4]; exact mL_bd hk.2.1
theorem FinS.bd (H : Keys T n 0 K kE) (I : FinS T n M K (i + 1) sa P) (hi : i < n) : -(n : Int) < sa i ∧ sa i < n := by
  obtain ⟨k, hk, _, h⟩ := I.at H hi
  rw [h]; exact mL_bd hk

/-- THE SUFFIX ARRAY. -/
structure IsSA (T : Nat → Nat) (n : Nat) (sa : Nat → Int) : Prop where
  all : ∀ k, k < n → ∃ x, x < n ∧ sa x = k
  val : ∀ x, x < n → ∃ k, k < n ∧ sa x = (k : Nat)
  sorted : ∀ x y a b, x < y → y < n → sa x = (a : Nat) → sa y = (b : Nat) → ll (suf T n a) (suf T n b)

theorem FinS.final (H : Keys T n 0 (kfull T n) (kfull T n)) (I : FinS T n M (kfull T n) 0 sa P) : IsSA T n sa := by
  have hv : ∀ k, k < n → sa (posS T n 0 (kfull T n) k) = k := by
    intro k hk
    rcases D_cases (T := T) (Nat.zero_le k) hk with h' | h'
    · rw [posS_S h', I.aS k h' (Nat.zero_le _), if_neg (by omega)]
    · rw [posS_L h', I.aL k h', if_neg (by omega)]
  have hsur : ∀ x, x < n → ∃ k, k < n ∧ posS T n 0 (kfull T n) k = x :=
    fun x hx => inj_surj (n := n) (posS T n 0 (kfull T n)) (fun x hx => posS_lt_n (Nat.zero_le _) hx) (fun x y hx hy h => posS_inj H (Nat.zero_le _) hx (Nat.zero_le _) hy h) x hx
  refine ⟨fun k hk => ⟨_, posS_lt_n (Nat.zero_le _) hk, hv k hk⟩, ?_, ?_⟩
  · intro x hx
    obtain ⟨k, hk, rfl⟩ := hsur x hx
    exact ⟨k, hk, hv k hk⟩
  · intro x y a b hxy hy ha hb
    obtain ⟨k, hk, rfl⟩ := hsur x (by omega)
    obtain ⟨l, hl, rfl⟩ := hsur y hy
    rw [hv k hk] at ha
    rw [hv l hl] at hb
    obtain rfl : k = a := by omega
    obtain rfl : l = b := by omega
    rw [posS_lt H (Nat.zero_le _) hk (Nat.zero_le _) hl] at hxy
    exact suf_of_kfull _ k l (Nat.le_refl _) (by omega) (by omega) hxy

theorem keys_full (hn : 0 < n) : Keys T n 0 (kfull T n) (kfull T n) where
  step i _ hi := by rw [kfull_step hi]; simp
  last := kfull_end (Nat.le_refl _)
  head p hp _ := ⟨_, kfull_step hp.2.1⟩
  inj p q hp hq _ _ h := kfull_inj _ p q (Nat.le_refl _) (by have := hp.2.1; omega) (by have := hq.2.1; omega) h
  low := .inl rfl
  len := hn

/-- The keys of the first phase: up to the next LMS place; that place breaks ties. -/
noncomputable def k1Aux (T : Nat → Nat) (n : Nat) : Nat → Nat → List Nat
  | 0, _ => []
  | f + 1, i => code T n i :: (if LMS T n (i + 1) then [code T n (i + 1), i + 1] else k1Aux T n f (i + 1))
noncomputable def k1 (T : Nat → Nat) (n i : Nat) : List Nat := k1Aux T n (n - i) i
noncomputable def e1 (T : Nat → Nat) (n p : Nat) : List Nat := [code T n p, p]
theorem k1_step {i : Nat} (h : i < n) : k1 T n i = code T n i :: (if LMS T n (i + 1) then e1 T n (i + 1) else k1 T n (i + 1)) := by
  unfold k1
  obtain ⟨d, hd⟩ : ∃ d, n - i = d + 1 := ⟨n - i - 1, by omega⟩
  rw [hd, show n - (i + 1) = d by omega]
  rfl
theorem k1_end : k1 T n n = [] := by
  unfold k1
  rw [Nat.sub_self]
  rfl
theorem keys_one (F : LMS T n lo) : Keys T n lo (k1 T n) (e1 T n) where
  step i _ hi := k1_step hi
  last := k1_end
  head p _ _ := ⟨[p], rfl⟩
  inj p q _ _ _ _ h := by simp only [e1, List.cons.injEq, and_true] at h; exact h.2
  low := .inr F
  len := F.2.1

/- LAYING THE LMS PLACES -/
noncomputable def PL (T : Nat → Nat) (n p : Nat) : Nat := start T n (T p + 1) - cnt (fun q => (LMS T n q ∧ T q = T p) ∧ p ≤ q) n

theorem PL_eq_one (F : First T n lo) {e : Nat} (he : E T n lo e) : slotE T n lo (e1 T n) e = PL T n e := by
  unfold slotE PL
  congr 1
  refine cnt_congr fun q _ => ?_
  constructor
  · rintro ⟨⟨h1, h2⟩, h3⟩
    refine ⟨⟨h1.1, h2⟩, ?_⟩
    rcases Nat.lt_or_ge q e with h4 | h4
    · refine (h3 ?_).elim
      simp only [e1, ll_cons, code_S (LMS_S h1.1), code_S (LMS_S he.1), h2]
      exact .inr ⟨trivial, .inl h4⟩
    · exact h4
  · rintro ⟨⟨h1, h2⟩, h3⟩
    refine ⟨⟨⟨h1, by have := he.2; omega⟩, h2⟩, ?_⟩
    simp only [e1, ll_cons, code_S (LMS_S h1), code_S (LMS_S he.1), h2]
    rintro (h | ⟨_, h | ⟨_, h⟩⟩)
    · omega
    · omega
    · exact ll_nil _ h

theorem PL_eq_full (hone : ∀ p q, LMS T n p → LMS T n q → p = q) {e : Nat} (he : LMS T n e) : slotE T n 0 (kfull T n) e = PL T n e := by
  unfold slotE PL
  congr 1
  refine cnt_congr fun q _ => ?_
  constructor
  · rintro ⟨⟨h1, h2⟩, _⟩
    exact ⟨⟨h1.1, h2⟩, by have := hone _ _ h1.1 he; omega⟩
  · rintro ⟨⟨h1, h2⟩, _⟩
    have := hone _ _ h1 he
    subst this
    exact ⟨⟨⟨h1, h1.1⟩, rfl⟩, ll_irrefl _⟩

theorem PL_bd {p : Nat} (h : LMS T n p) : PL T n p < n ∧ PL T n p < start T n (T p + 1) ∧ start T n (T p) ≤ PL T n p := by
  have h1 : 0 < cnt (fun q => (LMS T n q ∧ T q = T p) ∧ p ≤ q) n := cnt_pos h.2.1 ⟨⟨h, rfl⟩, Nat.le_refl _⟩
  have h2 : cnt (fun q => (LMS T n q ∧ T q = T p) ∧ p ≤ q) n ≤ cnt (fun i => T i = T p) n := cnt_mono fun q _ hq => hq.1.2
  have h3 := start_split (T := T) (n := n) (T p)
  have h4 := start_le (T := T) (n := n) (T p + 1)
  unfold PL
  omega
theorem PL_inj {p q : Nat} (hp : LMS T n p) (hq : LMS T n q) (h : PL T n p = PL T n q) : p = q := by
  have aux : ∀ p q, LMS T n p → LMS T n q → p < q → PL T n p ≠ PL T n q := by
    intro p q hp hq hlt e
    have b1 := PL_bd hp
    have b2 := PL_bd hq
    by_cases hc : T p = T q
    · have : cnt (fun x => (LMS T n x ∧ T x = T q) ∧ q ≤ x) n < cnt (fun x => (LMS T n x ∧ T x = T p) ∧ p ≤ x) n :=
        cnt_lt (a := p) (fun x _ hx => ⟨⟨hx.1.1, by rw [hc]; exact hx.1.2⟩, by omega⟩) hp.2.1 ⟨⟨hp, rfl⟩, Nat.le_refl _⟩ (fun hh => by omega)
      have h2 : cnt (fun x => (LMS T n x ∧ T x = T p) ∧ p ≤ x) n ≤ cnt (fun i => T i = T p) n := cnt_mono fun q _ hq => hq.1.2
      have h3 := start_split (T := T) (n := n) (T p)
      unfold PL at e
      rw [hc] at e this h2 h3
      omega
    · rcases Nat.lt_or_ge (T p) (T q) with h5 | h5
      · have := slot_cross (T := T) (n := n) h5; omega
      · have := slot_cross (T := T) (n := n) (x := q) (y := p) (by omega); omega
  rcases Nat.lt_trichotomy p q with h1 | h1 | h1
  · exact (aux p q hp hq h1 h).elim
  · exact h1
  · exact (aux q p hq hp h1 h.symm).elim

/- THE LMS ITERATOR: it stands at j: the places from j on have been seen. -/
theorem iter_lt {j : Nat} (hj : 0 < j) (hn : j < n) (h : T (j - 1) < T j) : isS T n (j - 1) ∧ ¬ LMS T n j := by
  have : isS T n (j - 1) := isS_of_lt (by omega) (by rw [show j - 1 + 1 = j by omega]; exact h)
  exact ⟨this, fun hh => hh.2.2.2 this⟩
theorem iter_lms {j : Nat} (hj : 0 < j) (hn : j < n) (h : T j < T (j - 1)) (hs : isS T n j) : LMS T n j ∧ ¬ isS T n (j - 1) := by
  have : ¬ isS T n (j - 1) := by
    rw [isS_step, show j - 1 + 1 = j by omega]
    rintro ⟨_, h' | h'⟩ <;> omega
  exact ⟨⟨hj, hn, hs, this⟩, this⟩
theorem iter_else {j : Nat} (hj : 0 < j) (hn : j < n) (h1 : ¬ T (j - 1) < T j) (h2 : ¬ (T j < T (j - 1) ∧ isS T n j)) : (isS T n (j - 1) ↔ isS T n j) ∧ ¬ LMS T n j := by
  have e : isS T n (j - 1) ↔ isS T n j := by
    rw [isS_step, show j - 1 + 1 = j by omega]
    constructor
    · rintro ⟨_, h' | h'⟩
      · omega
      · exact h'.2
    · intro h
      refine ⟨hn, .inr ⟨?_, h⟩⟩
      rcases Nat.lt_trichotomy (T (j - 1)) (T j) with h3 | h3 | h3
      · omega
      · exact h3
      · exact (h2 ⟨h3, h⟩).elim
  exact ⟨e, fun hh => hh.2.2.2 (e.2 hh.2.2.1)⟩

/-- Laying LMS places: the iterator stands at j. -/
structure Place (T : Nat → Nat) (n M j : Nat) (sa P : Nat → Int) (num : Nat) (lastB : Int) : Prop where
  p : ∀ c, c < M → P c + cnt (fun q => (LMS T n q ∧ T q = c) ∧ j < q) n = start T n (c + 1)
  a : ∀ q, LMS T n q → j < q → sa (PL T n q) = q
  z : ∀ x, x < n → sa x ≠ 0 → ∃ q, LMS T n q ∧ j < q ∧ PL T n q = x
  nm : num = cnt (fun q => LMS T n q ∧ j < q) n
  lb : num = 0 ∨ ∃ q, LMS T n q ∧ j < q ∧ (∀ q', LMS T n q' → j < q' → q ≤ q') ∧ lastB = PL T n q

theorem Place.init (hz : ∀ x, x < n → sa x = 0) (hP : ∀ c, c < M → P c = start T n (c + 1)) : Place T n M n sa P 0 (-1) := by
  have : ∀ q, LMS T n q → ¬ n < q := fun q h => by have := h.2.1; omega
  refine ⟨fun c hc => ?_, fun q h1 h2 => (this q h1 h2).elim, fun x hx hne => (hne (hz x hx)).elim, ?_, .inl rfl⟩
  · rw [cnt_false (fun q _ h => this q h.1.1 h.2), hP c hc]; omega
  · rw [cnt_false (fun q _ h => this q h.1 h.2)]

theorem Place.none {j : Nat} {num : Nat} {lastB : Int} (I : Place T n M (j + 1) sa P num lastB) (h : ¬ LMS T n (j + 1)) : Place T n M j sa P num lastB := by
  have e : ∀ q, LMS T n q → (j < q ↔ j + 1 < q) := fun q hq => by
    have : q ≠ j + 1 := fun e => h (e ▸ hq)
    omega
  refine ⟨fun c hc => ?_, fun q h1 h2 => I.a q h1 ((e q h1).1 h2), fun x hx hne => ?_, ?_, ?_⟩
  · have ee : cnt (fun q => (LMS T n q ∧ T q = c) ∧ j < q) n = cnt (fun q => (LMS T n q ∧ T q = c) ∧ j + 1 < q) n :=
      cnt_congr fun q _ => ⟨fun h => ⟨h.1, (e q h.1.1).1 h.2⟩, fun h => ⟨h.1, by omega⟩⟩
    rw [ee]; exact I.p c hc
  · obtain ⟨q, h1, h2, h3⟩ := I.z x hx hne
    exact ⟨q, h1, by omega, h3⟩
  · rw [I.nm]
    exact cnt_congr fun q _ => ⟨fun h => ⟨h.1, by omega⟩, fun h => ⟨h.1, (e q h.1).1 h.2⟩⟩
  · rcases I.lb with h1 | ⟨q, h1, h2, h3, h4⟩
    · exact .inl h1
    · exact .inr ⟨q, h1, by omega, fun q' a b => h3 q' a ((e q' a).1 b), h4⟩

theorem Place.lms {j : Nat} {num : Nat} {lastB : Int} (hM : ∀ i, i < n → T i < M) (I : Place T n M (j + 1) sa P num lastB) (h : LMS T n (j + 1)) :
    ∃ s : Nat, P (T (j + 1)) = (s : Int) + 1 ∧ s < n ∧ Place T n M j (upd sa s ((j : Int) + 1)) (drop1 P (T (j + 1))) (num + 1) s := by
  have hb := PL_bd h
  have hp := I.p _ (hM _ h.2.1)
  have e1 : cnt (fun q => (LMS T n q ∧ T q = T (j + 1)) ∧ j + 1 ≤ q) n = cnt (fun q => (LMS T n q ∧ T q = T (j + 1)) ∧ j + 1 < q) n + 1 := by
    refine cnt_insert (a := j + 1) h.2.1 (fun q _ => ?_) (fun hh => by omega)
    constructor
    · rintro ⟨h1, h2⟩
      by_cases e : q = j + 1
      · exact .inr e
      · exact .inl ⟨h1, by omega⟩
    · rintro (⟨h1, h2⟩ | rfl)
      · exact ⟨h1, by omega⟩
      · exact ⟨⟨h, rfl⟩, Nat.le_refl _⟩
  refine ⟨PL T n (j + 1), ?_, hb.1, ?_⟩
  · have h2 : cnt (fun q => (LMS T n q ∧ T q = T (j + 1)) ∧ j + 1 ≤ q) n ≤ cnt (fun i => T i = T (j + 1)) n := cnt_mono fun q _ hq => hq.1.2
    have h3 := start_split (T := T) (n := n) (T (j + 1))
    unfold PL
    omega
  refine ⟨?_, ?_, ?_, ?_, ?_⟩
  · intro c hc
    have := I.p c hc
    unfold drop1
    by_cases e : c = T (j + 1)
    · rw [if_pos e, ← this, e]
      rw [cnt_congr (q := fun q => (LMS T n q ∧ T q = T (j + 1)) ∧ j + 1 ≤ q) (fun q _ => ⟨fun h => ⟨h.1, h.2⟩, fun h => ⟨h.1, h.2⟩⟩), e1]
      omega
    · rw [if_neg e, ← this]
      have ee : cnt (fun q => (LMS T n q ∧ T q = c) ∧ j < q) n = cnt (fun q => (LMS T n q ∧ T q = c) ∧ j + 1 < q) n :=
        cnt_congr fun q _ => ⟨fun h => ⟨h.1, by
          have : q ≠ j + 1 := fun e' => e (by rw [← h.1.2, e'])
          have := h.2
          omega⟩, fun h => ⟨h.1, by omega⟩⟩
      rw [ee]
  · intro q h1 h2
    by_cases e : q = j + 1
    · subst e; rw [upd_same]; omega
    · rw [upd_other _ _ (fun e' => e (PL_inj h1 h e'))]
      exact I.a q h1 (by omega)
  · intro x hx hne
    by_cases e : x = PL T n (j + 1)
    · exact ⟨j + 1, h, by omega, e.symm⟩
    · rw [upd_other _ _ e] at hne
      obtain ⟨q, h1, h2, h3⟩ := I.z x hx hne
      exact ⟨q, h1, by omega, h3⟩
  · rw [cnt_insert (p := fun q => LMS T n q ∧ j + 1 < q) (a := j + 1) h.2.1 (fun q _ => ?_) (fun hh => by omega), ← I.nm]
    constructor
    · rintro ⟨h1, h2⟩
      by_cases e : q = j + 1
      · exact .inr e
      · exact .inl ⟨h1, by omega⟩
    · rintro (⟨h1, h2⟩ | rfl)
      · exact ⟨h1, by omega⟩
      · exact ⟨h, by omega⟩
  · exact .inr ⟨j + 1, h, by omega, fun q' _ h' => by omega, rfl⟩

/-- At the end, several LMS places: the first one is struck. -/
theorem Place.many {num : Nat} {lastB : Int} (I : Place T n M 0 sa P num lastB) (h : 1 < num) :
    ∃ lo s : Nat, lastB = s ∧ s < n ∧ First T n lo ∧ Laid T n lo (e1 T n) (upd sa s 0) ∧ num = cnt (LMS T n) n := by
  rcases I.lb with h' | ⟨lo, h1, h2, h3, h4⟩
  · omega
  have F : First T n lo := ⟨h1, fun p hp => h3 p hp hp.1⟩
  refine ⟨lo, PL T n lo, h4, (PL_bd h1).1, F, ⟨?_, ?_⟩, ?_⟩
  · intro e he
    rw [PL_eq_one F he, upd_other _ _ (fun e' => by have := PL_inj he.1 h1 e'; have := he.2; omega)]
    exact I.a e he.1 he.1.1
  · intro x hx hne
    have e2 : x ≠ PL T n lo := fun e => hne (by rw [e, upd_same])
    rw [upd_other _ _ e2] at hne
    obtain ⟨q, h5, h6, h7⟩ := I.z x hx hne
    have hlt : lo < q := by
      have := h3 q h5 h6
      have : lo ≠ q := fun e => e2 (by rw [← h7, e])
      omega
    exact ⟨q, ⟨h5, hlt⟩, by rw [PL_eq_one F ⟨h5, hlt⟩, h7]⟩
  · rw [I.nm]
    exact cnt_congr fun q _ => ⟨fun h => h.1, fun h => ⟨h, h.1⟩⟩

theorem Place.few {num : Nat} {lastB : Int} (I : Place T n M 0 sa P num lastB) (h : num ≤ 1) : Laid T n 0 (kfull T n) sa := by
  have hone : ∀ p q, LMS T n p → LMS T n q → p = q := by
    intro p q hp hq
    refine Classical.byContradiction fun hne => ?_
    have h1 : cnt (fun x => x = p ∨ x = q) n ≤ cnt (fun q => LMS T n q ∧ 0 < q) n := cnt_mono fun x _ hx => by
      rcases hx with rfl | rfl
      · exact ⟨hp, hp.1⟩
      · exact ⟨hq, hq.1⟩
    rw [cnt_or (p := fun x => x = p) (q := fun x => x = q) (fun _ _ => Iff.rfl) (fun x _ hx => hne (hx.1.symm.trans hx.2)), cnt_one hp.2.1, cnt_one hq.2.1, ← I.nm] at h1
    omega
  refine ⟨fun e he => ?_, fun x hx hne => ?_⟩
  · rw [PL_eq_full hone he.1]; exact I.a e he.1 he.2
  · obtain ⟨q, h5, h6, h7⟩ := I.z x hx hne
    exact ⟨q, ⟨h5, h6⟩, by rw [PL_eq_full hone h5, h7]⟩

end
end Sais

/- Naming the LMS substrings, and the smaller text made of the names: its suffixes are sorted as the LMS suffixes are. -/
set_option linter.unusedVariables false
namespace Sais
open Classical

section
variable {T : Nat → Nat} {n lo M i : Nat} {sa P : Nat → Int}

noncomputable def ksubAux (T : Nat → Nat) (n : Nat) : Nat → Nat → List Nat
  | 0, _ => []
  | f + 1, i => code T n i :: (if LMS T n (i + 1) then [code T n (i + 1)] else ksubAux T n f (i + 1))
noncomputable def ksub (T : Nat → Nat) (n i : Nat) : List Nat := ksubAux T n (n - i) i
theorem ksub_step {i : Nat} (h : i < n) : ksub T n i = code T n i :: (if LMS T n (i + 1) then [code T n (i + 1)] else ksub T n (i + 1)) := by
  unfold ksub
  obtain ⟨d, hd⟩ : ∃ d, n - i = d + 1 := ⟨n - i - 1, by omega⟩
  rw [hd, show n - (i + 1) = d by omega]
  rfl
theorem ksub_end : ksub T n n = [] := by
  unfold ksub
  rw [Nat.sub_self]
  rfl

/-- One follower is LMS, the other one is not: their codes differ. -/
theorem code_mix {i j : Nat} (hc : code T n i = code T n j) (h1 : LMS T n (i + 1)) (h2 : ¬ LMS T n (j + 1)) : code T n (i + 1) ≠ code T n (j + 1) := by
  intro e
  have h3 := (code_eq hc).2
  have h4 := (code_eq e).2
  have h5 : ¬ isS T n j := fun h => LMS_succ_L h1 (h3.2 h)
  exact h2 (LMS_mk h5 (h4.1 (LMS_S h1)))

theorem sub_of_k1 : ∀ (d i j : Nat), n - i ≤ d → i ≤ n → j ≤ n → ll (k1 T n i) (k1 T n j) → ll (ksub T n i) (ksub T n j) ∨ ksub T n i = ksub T n j
  | d, i, j, hd, hi, hj, h => by
    by_cases hjn : j = n
    · subst hjn; rw [k1_end] at h; exact (ll_nil _ h).elim
    by_cases hin : i = n
    · subst hin; rw [ksub_end, ksub_step (by omega)]; exact .inl (nil_ll _ _)
    match d with
    | 0 => omega
    | d + 1 =>
      rw [k1_step (by omega : i < n), k1_step (by omega : j < n), ll_cons] at h
      rw [ksub_step (by omega : i < n), ksub_step (by omega : j < n)]
      rcases h with h | ⟨hc, h⟩
      · exact .inl (ll_cons.2 (.inl h))
      · by_cases h1 : LMS T n (i + 1) <;> by_cases h2 : LMS T n (j + 1) <;> simp only [h1, h2, if_true, if_false] at h ⊢
        · simp only [e1, ll_cons] at h
          rcases h with h | ⟨h, _⟩
          · exact .inl (ll_cons.2 (.inr ⟨hc, ll_cons.2 (.inl h)⟩))
          · exact .inr (by rw [hc, h])
        · by_cases hjn' : j + 1 = n
          · rw [hjn', k1_end] at h; exact (ll_nil _ h).elim
          · rw [k1_step (by omega : j + 1 < n)] at h
            simp only [e1, ll_cons] at h
            rw [ksub_step (by omega : j + 1 < n)]
            rcases h with h | ⟨h, _⟩
            · exact .inl (ll_cons.2 (.inr ⟨hc, ll_cons.2 (.inl h)⟩))
            · exact (code_mix hc h1 h2 h).elim
        · by_cases hin' : i + 1 = n
          · rw [hin', ksub_end]; exact .inl (ll_cons.2 (.inr ⟨hc, nil_ll _ _⟩))
          · rw [k1_step (by omega : i + 1 < n)] at h
            simp only [e1, ll_cons] at h
            rw [ksub_step (by omega : i + 1 < n)]
            rcases h with h | ⟨h, _⟩
            · exact .inl (ll_cons.2 (.inr ⟨hc, ll_cons.2 (.inl h)⟩))
            · exact (code_mix hc.symm h2 h1 h.symm).elim
        · rcases sub_of_k1 d (i + 1) (j + 1) (by omega) (by omega) (by omega) h with h' | h'
          · exact .inl (ll_cons.2 (.inr ⟨hc, h'⟩))
          · exact .inr (by rw [hc, h'])

theorem full_of_sub : ∀ (d i j : Nat), n - i ≤ d → i ≤ n → j ≤ n → ll (ksub T n i) (ksub T n j) → ll (kfull T n i) (kfull T n j)
  | d, i, j, hd, hi, hj, h => by
    by_cases hjn : j = n
    · subst hjn; rw [ksub_end] at h; exact (ll_nil _ h).elim
    by_cases hin : i = n
    · subst hin; rw [kfull_end (Nat.le_refl _), kfull_step (by omega)]; exact nil_ll _ _
    match d with
    | 0 => omega
    | d + 1 =>
      rw [ksub_step (by omega : i < n), ksub_step (by omega : j < n), ll_cons] at h
      rw [kfull_step (by omega : i < n), kfull_step (by omega : j < n), ll_cons]
      rcases h with h | ⟨hc, h⟩
      · exact .inl h
      · refine .inr ⟨hc, ?_⟩
        by_cases h1 : LMS T n (i + 1) <;> by_cases h2 : LMS T n (j + 1) <;> simp only [h1, h2, if_true, if_false] at h
        · rw [kfull_step h1.2.1, kfull_step h2.2.1]
          simp only [ll_cons] at h ⊢
          rcases h with h | ⟨_, h⟩
          · exact .inl h
          · exact (ll_nil _ h).elim
        · by_cases hjn' : j + 1 = n
          · rw [hjn', ksub_end] at h; exact (ll_nil _ h).elim
          · rw [ksub_step (by omega : j + 1 < n)] at h
            rw [kfull_step h1.2.1, kfull_step (by omega : j + 1 < n)]
            simp only [ll_cons] at h ⊢
            rcases h with h | ⟨h, _⟩
            · exact .inl h
            · exact (code_mix hc h1 h2 h).elim
        · by_cases hin' : i + 1 = n
          · rw [hin', kfull_end (Nat.le_refl _), kfull_step h2.2.1]; exact nil_ll _ _
          · rw [ksub_step (by omega : i + 1 < n)] at h
            rw [kfull_step h2.2.1, kfull_step (by omega : i + 1 < n)]
            simp only [ll_cons] at h ⊢
            rcases h with h | ⟨h, _⟩
            · exact .inl h
            · exact (code_mix hc.symm h2 h1 h.symm).elim
        · exact full_of_sub d (i + 1) (j + 1) (by omega) (by omega) (by omega) h

/-- The next LMS place behind p stands d further. -/
def Nx (T : Nat → Nat) (n p d : Nat) : Prop := 0 < d ∧ LMS T n (p + d) ∧ ∀ t, 0 < t → t < d → ¬ LMS T n (p + t)

theorem Nx_uniq {p d d' : Nat} (h : Nx T n p d) (h' : Nx T n p d') : d = d' := by
  rcases Nat.lt_trichotomy d d' with h1 | h1 | h1
  · exact (h'.2.2 d h.1 h1 h.2.1).elim
  · exact h1
  · exact (h.2.2 d' h'.1 h1 h'.2.1).elim

theorem sub_eq : ∀ (f i j : Nat), n - i ≤ f → i ≤ n → j ≤ n → ksub T n i = ksub T n j → i = j ∨ ∃ d, Nx T n i d ∧ Nx T n j d ∧ ∀ t, t ≤ d → code T n (i + t) = code T n (j + t)
  | f, i, j, hd, hi, hj, h => by
    by_cases hin : i = n
    · by_cases hjn : j = n
      · exact .inl (by omega)
      · subst hin; rw [ksub_end, ksub_step (by omega)] at h; simp at h
    by_cases hjn : j = n
    · subst hjn; rw [ksub_end, ksub_step (by omega)] at h; simp at h
    match f with
    | 0 => omega
    | f + 1 =>
      rw [ksub_step (by omega : i < n), ksub_step (by omega : j < n)] at h
      obtain ⟨hc, h⟩ := List.cons.inj h
      by_cases h1 : LMS T n (i + 1) <;> by_cases h2 : LMS T n (j + 1) <;> simp only [h1, h2, if_true, if_false] at h
      · refine .inr ⟨1, ⟨by omega, h1, fun t _ _ => by omega⟩, ⟨by omega, h2, fun t _ _ => by omega⟩, fun t ht => ?_⟩
        by_cases e : t = 0
        · subst e; exact hc
        · obtain rfl : t = 1 := by omega
          simpa using h
      · by_cases hjn' : j + 1 = n
        · rw [hjn', ksub_end] at h; simp at h
        · rw [ksub_step (by omega : j + 1 < n)] at h
          exact (code_mix hc h1 h2 (List.cons.inj h).1).elim
      · by_cases hin' : i + 1 = n
        · rw [hin', ksub_end] at h; simp at h
        · rw [ksub_step (by omega : i + 1 < n)] at h
          exact (code_mix hc.symm h2 h1 (List.cons.inj h).1.symm).elim
      · rcases sub_eq f (i + 1) (j + 1) (by omega) (by omega) (by omega) h with h' | ⟨d, a, b, c⟩
        · exact .inl (by omega)
        · refine .inr ⟨d + 1, ⟨by omega, by rw [show i + (d + 1) = i + 1 + d by omega]; exact a.2.1, ?_⟩, ⟨by omega, by rw [show j + (d + 1) = j + 1 + d by omega]; exact b.2.1, ?_⟩, ?_⟩
          · intro t ht0 ht
            by_cases e : t = 1
            · subst e; exact h1
            · have := a.2.2 (t - 1) (by omega) (by omega)
              rwa [show i + 1 + (t - 1) = i + t by omega] at this
          · intro t ht0 ht
            by_cases e : t = 1
            · subst e; exact h2
            · have := b.2.2 (t - 1) (by omega) (by omega)
              rwa [show j + 1 + (t - 1) = j + t by omega] at this
          · intro t ht
            by_cases e : t = 0
            · subst e; exact hc
            · have := c (t - 1) (by omega)
              rwa [show i + 1 + (t - 1) = i + t by omega, show j + 1 + (t - 1) = j + t by omega] at this

theorem eq_sub : ∀ (d i j : Nat), Nx T n i d → Nx T n j d → (∀ t, t ≤ d → code T n (i + t) = code T n (j + t)) → ksub T n i = ksub T n j
  | 0, i, j, h, _, _ => by have := h.1; omega
  | d + 1, i, j, hi, hj, hc => by
    have b1 := hi.2.1.2.1
    have b2 := hj.2.1.2.1
    have c0 := hc 0 (by omega)
    simp only [Nat.add_zero] at c0
    rw [ksub_step (by omega : i < n), ksub_step (by omega : j < n), c0]
    by_cases e : d = 0
    · subst e
      have l1 : LMS T n (i + 1) := by simpa using hi.2.1
      have l2 : LMS T n (j + 1) := by simpa using hj.2.1
      rw [if_pos l1, if_pos l2]
      have := hc 1 (by omega)
      rw [this]
    · rw [if_neg (hi.2.2 1 (by omega) (by omega)), if_neg (hj.2.2 1 (by omega) (by omega))]
      rw [eq_sub d (i + 1) (j + 1)]
      · refine ⟨by omega, by rw [show i + 1 + d = i + (d + 1) by omega]; exact hi.2.1, fun t h1 h2 => ?_⟩
        have := hi.2.2 (t + 1) (by omega) (by omega)
        rwa [show i + (t + 1) = i + 1 + t by omega] at this
      · refine ⟨by omega, by rw [show j + 1 + d = j + (d + 1) by omega]; exact hj.2.1, fun t h1 h2 => ?_⟩
        have := hj.2.2 (t + 1) (by omega) (by omega)
        rwa [show j + (t + 1) = j + 1 + t by omega] at this
      · intro t ht
        have := hc (t + 1) (by omega)
        rwa [show i + (t + 1) = i + 1 + t by omega, show j + (t + 1) = j + 1 + t by omega] at this

theorem types_eq {p q d : Nat} (hp : isS T n (p + d)) (hq : isS T n (q + d)) (h : ∀ t, t ≤ d → T (p + t) = T (q + t)) : ∀ s, s ≤ d → (isS T n (p + (d - s)) ↔ isS T n (q + (d - s)))
  | 0, _ => by simp [hp, hq]
  | s + 1, hs => by
    have ih := types_eq hp hq h s (by omega)
    have b1 := isS_lt hp
    have b2 := isS_lt hq
    rw [isS_step (i := p + (d - (s + 1))), isS_step (i := q + (d - (s + 1))), show p + (d - (s + 1)) + 1 = p + (d - s) by omega, show q + (d - (s + 1)) + 1 = q + (d - s) by omega, ih, h (d - (s + 1)) (by omega), h (d - s) (by omega)]
    constructor
    · rintro ⟨_, h1⟩; exact ⟨by omega, h1⟩
    · rintro ⟨_, h1⟩; exact ⟨by omega, h1⟩

/-- Equal texts up to the next LMS places: equal keys. -/
theorem raw_sub {p q d : Nat} (hp : Nx T n p d) (hq : Nx T n q d) (h : ∀ t, t ≤ d → T (p + t) = T (q + t)) : ksub T n p = ksub T n q := by
  refine eq_sub d p q hp hq fun t ht => ?_
  have := types_eq (LMS_S hp.2.1) (LMS_S hq.2.1) h (d - t) (by omega)
  rw [show d - (d - t) = t by omega] at this
  unfold code
  rw [h t ht]
  simp only [this]

theorem full_shift : ∀ (d i j : Nat), (∀ t, t < d → code T n (i + t) = code T n (j + t)) → i + d ≤ n → j + d ≤ n → ll (kfull T n (i + d)) (kfull T n (j + d)) → ll (kfull T n i) (kfull T n j)
  | 0, i, j, _, _, _, h => by simpa using h
  | d + 1, i, j, hc, hi, hj, h => by
    rw [kfull_step (by omega : i < n), kfull_step (by omega : j < n), ll_cons]
    refine .inr ⟨by simpa using hc 0 (by omega), full_shift d (i + 1) (j + 1) (fun t ht => ?_) (by omega) (by omega) ?_⟩
    · have := hc (t + 1) (by omega)
      rwa [show i + (t + 1) = i + 1 + t by omega, show j + (t + 1) = j + 1 + t by omega] at this
    · rwa [show i + 1 + d = i + (d + 1) by omega, show j + 1 + d = j + (d + 1) by omega]

/- THE LMS PLACES IN THE ORDER OF THE TEXT -/
noncomputable def idx (T : Nat → Nat) (n p : Nat) : Nat := cnt (LMS T n) p
noncomputable def nLMS (T : Nat → Nat) (n : Nat) : Nat := cnt (LMS T n) n

theorem idx_lt {p : Nat} (h : LMS T n p) : idx T n p < nLMS T n := cnt_lt_n (Nat.le_refl _) h.2.1 h
theorem idx_inj {p q : Nat} (hp : LMS T n p) (hq : LMS T n q) (h : idx T n p = idx T n q) : p = q := by
  rcases Nat.lt_trichotomy p q with h1 | h1 | h1
  · have := cnt_lt_n (p := LMS T n) (Nat.le_refl _) h1 hp; unfold idx at h; omega
  · exact h1
  · have := cnt_lt_n (p := LMS T n) (Nat.le_refl _) h1 hq; unfold idx at h; omega
theorem idx_surj {r : Nat} (h : r < nLMS T n) : ∃ p, LMS T n p ∧ idx T n p = r := by
  obtain ⟨p, _, h2, h3⟩ := cnt_surj h
  exact ⟨p, h2, h3⟩
theorem idx_next {p d : Nat} (hp : LMS T n p) (h : Nx T n p d) : idx T n (p + d) = idx T n p + 1 := by
  have key : ∀ t, 0 < t → t ≤ d → idx T n (p + t) = idx T n p + 1 := by
    intro t
    induction t with
    | zero => intro h; omega
    | succ t ih =>
      intro _ h2
      by_cases e : t = 0
      · subst e; exact cnt_succ_pos hp
      · have := ih (by omega) (by omega)
        unfold idx at this ⊢
        rw [show p + (t + 1) = p + t + 1 by omega, cnt_succ_neg (h.2.2 t (by omega) (by omega)), this]
  exact key d h.1 (Nat.le_refl _)
/-- Two LMS places do not touch: there are fewer than half as many as there are places. -/
theorem LMS_apart {p : Nat} (h : LMS T n p) : ¬ LMS T n (p + 1) := fun h' => LMS_succ_L h' (LMS_S h)
theorem nLMS_half (hn : 0 < n) : 2 * nLMS T n + 1 ≤ n := by
  have key : ∀ j, j ≤ n → 2 * cnt (LMS T n) j ≤ (if 0 < j ∧ LMS T n (j - 1) then j else j - 1) ∨ j = 0 := by
    intro j
    induction j with
    | zero => intro _; exact .inr rfl
    | succ j ih =>
      intro hj
      refine .inl ?_
      rcases ih (by omega) with h | h
      · by_cases hl : LMS T n j
        · have h1 : ¬ LMS T n (j - 1) := fun hh => by
            have h0 := hl.1
            refine LMS_apart hh ?_
            rwa [show j - 1 + 1 = j by omega]
          have h0 := hl.1
          simp only [h1, and_false, if_false] at h
          rw [cnt_succ_pos hl]
          simp only [Nat.add_sub_cancel, hl, and_true, show 0 < j + 1 by omega, if_true]
          omega
        · rw [cnt_succ_neg hl]
          simp only [Nat.add_sub_cancel, hl, and_false, if_false]
          split at h <;> omega
      · subst h
        have hl : ¬ LMS T n 0 := fun h => by have := h.1; omega
        rw [cnt_succ_neg hl, cnt_zero]
        omega
  rcases key n (Nat.le_refl _) with h | h
  · have h1 : ¬ LMS T n (n - 1) := fun hh => last_L hn (LMS_S hh)
    simp only [h1, and_false, if_false] at h
    unfold nLMS
    omega
  · omega
theorem half_inj {p q : Nat} (hp : LMS T n p) (hq : LMS T n q) (h : p / 2 = q / 2) : p = q := by
  rcases Nat.lt_trichotomy p q with h1 | h1 | h1
  · have : q = p + 1 := by omega
    subst this; exact (LMS_apart hp hq).elim
  · exact h1
  · have : p = q + 1 := by omega
    subst this; exact (LMS_apart hq hp).elim
theorem LMS_lt {p : Nat} (h : LMS T n p) : p + 1 < n := isS_lt (LMS_S h)

/- SORTED BY THE FIRST PHASE -/
noncomputable def srank (T : Nat → Nat) (n p : Nat) : Nat := cnt (fun q => LMS T n q ∧ ll (k1 T n q) (k1 T n p)) n

theorem k1_inj' {p q : Nat} (hp : LMS T n p) (hq : LMS T n q) (F : First T n lo) (h : k1 T n p = k1 T n q) : p = q :=
  K_inj (keys_one F.lms) _ p q (Nat.le_refl _) (F.least p hp) (by have := hp.2.1; omega) (F.least q hq) (by have := hq.2.1; omega) h
theorem srank_lt {p q : Nat} (hp : LMS T n p) (h : ll (k1 T n p) (k1 T n q)) : srank T n p < srank T n q := rank_lt (A := LMS T n) hp.2.1 hp h
theorem srank_top {p : Nat} (hp : LMS T n p) : srank T n p < nLMS T n := rank_top (A := LMS T n) hp.2.1 hp
theorem srank_iff (F : First T n lo) {p q : Nat} (hp : LMS T n p) (hq : LMS T n q) : srank T n p < srank T n q ↔ ll (k1 T n p) (k1 T n q) := by
  refine ⟨fun h => ?_, srank_lt hp⟩
  rcases ll_tri (k1 T n p) (k1 T n q) with h' | h' | h'
  · exact h'
  · have := k1_inj' hp hq F h'; subst this; omega
  · have := srank_lt hq h'; omega
theorem srank_inj (F : First T n lo) {p q : Nat} (hp : LMS T n p) (hq : LMS T n q) (h : srank T n p = srank T n q) : p = q := by
  rcases ll_tri (k1 T n p) (k1 T n q) with h' | h' | h'
  · have := srank_lt hp h'; omega
  · exact k1_inj' hp hq F h'
  · have := srank_lt hq h'; omega
theorem srank_surj (F : First T n lo) {r : Nat} (h : r < nLMS T n) : ∃ p, LMS T n p ∧ srank T n p = r := by
  have hc : ∀ s, ∃ p, s < nLMS T n → LMS T n p ∧ idx T n p = s := fun s => by
    by_cases hs : s < nLMS T n
    · obtain ⟨p, h1, h2⟩ := idx_surj hs; exact ⟨p, fun _ => ⟨h1, h2⟩⟩
    · exact ⟨0, fun h => (hs h).elim⟩
  obtain ⟨g, hg⟩ := Classical.axiomOfChoice hc
  obtain ⟨s, hs, e⟩ := inj_surj (n := nLMS T n) (fun s => srank T n (g s)) (fun s hs => srank_top (hg s hs).1)
    (fun s t hs ht e => by
      have := srank_inj F (hg s hs).1 (hg t ht).1 e
      rw [← (hg s hs).2, ← (hg t ht).2, this]) r h
  exact ⟨g s, (hg s hs).1, e⟩

/-- What the first phase leaves: the LMS places, sorted, at the top; nothing below. -/
structure Top (T : Nat → Nat) (n : Nat) (sa : Nat → Int) : Prop where
  a : ∀ p, LMS T n p → sa (n - nLMS T n + srank T n p) = p
  z : ∀ x, x < n - nLMS T n → sa x = 0

theorem SubS.final (F : First T n lo) {top : Nat} (I : SubS T n lo M (k1 T n) 0 sa P top) : Top T n sa := by
  have H := keys_one F.lms
  have e0 : tops T n lo (k1 T n) 0 = nLMS T n := cnt_congr fun q _ => ⟨fun h => h.1, fun h => ⟨h, Nat.zero_le _⟩⟩
  have htp := I.tp
  rw [e0] at htp
  refine ⟨fun p hp => ?_, fun x hx => I.z2 x (Nat.zero_le _) (by omega)⟩
  have ha := I.t p hp (Nat.zero_le _)
  have hiff : ∀ q, LMS T n q → (slotS T n lo (k1 T n) p < slotS T n lo (k1 T n) q ↔ ll (k1 T n p) (k1 T n q)) := by
    intro q hq
    have := posS_lt H (F.DS hp).1 (F.DS hp).2.1 (F.DS hq).1 (F.DS hq).2.1
    rwa [posS_S (F.DS hp), posS_S (F.DS hq)] at this
  have e1 : nLMS T n = (srank T n p + 1) + tops T n lo (k1 T n) (slotS T n lo (k1 T n) p + 1) := by
    have e2 : cnt (fun q => LMS T n q ∧ (ll (k1 T n q) (k1 T n p) ∨ q = p)) n = srank T n p + 1 :=
      cnt_insert (a := p) hp.2.1 (fun q _ => ⟨fun h => h.2.elim (fun h' => .inl ⟨h.1, h'⟩) .inr, fun h => h.elim (fun h' => ⟨h'.1, .inl h'.2⟩) (fun h' => ⟨h' ▸ hp, .inr h'⟩)⟩) (fun h => ll_irrefl _ h.2)
    rw [← e2]
    refine cnt_or (fun q _ => ?_) (fun q _ h => ?_)
    · constructor
      · intro hq
        rcases ll_tri (k1 T n q) (k1 T n p) with h' | h' | h'
        · exact .inl ⟨hq, .inl h'⟩
        · exact .inl ⟨hq, .inr (k1_inj' hq hp F h')⟩
        · exact .inr ⟨hq, (hiff q hq).2 h'⟩
      · rintro (h | h)
        · exact h.1
        · exact h.1
    · obtain ⟨⟨hq, h1⟩, _, h2⟩ := h
      have h3 := (hiff q hq).1 h2
      rcases h1 with h1 | rfl
      · exact ll_asymm h1 h3
      · exact ll_irrefl _ h3
  have := I.le
  rw [show n - nLMS T n + srank T n p = n - 1 - tops T n lo (k1 T n) (slotS T n lo (k1 T n) p + 1) by omega]
  exact ha

/- NAMES -/
/-- The place at rank r. -/
noncomputable def rho (T : Nat → Nat) (n r : Nat) : Nat := if h : ∃ p, LMS T n p ∧ srank T n p = r then Classical.choose h else 0
theorem rho_spec (F : First T n lo) {r : Nat} (h : r < nLMS T n) : LMS T n (rho T n r) ∧ srank T n (rho T n r) = r := by
  have := srank_surj F h
  unfold rho
  rw [dif_pos this]
  exact Classical.choose_spec this
theorem rho_srank (F : First T n lo) {p : Nat} (hp : LMS T n p) : rho T n (srank T n p) = p := by
  have := rho_spec F (srank_top hp)
  exact srank_inj F this.1 hp this.2

noncomputable def nameSeq (T : Nat → Nat) (n : Nat) : Nat → Nat
  | 0 => 1
  | a + 1 => if ksub T n (rho T n (a + 1)) = ksub T n (rho T n a) then nameSeq T n a else nameSeq T n a + 1
noncomputable def name (T : Nat → Nat) (n p : Nat) : Nat := nameSeq T n (srank T n p)

theorem nameSeq_mono {a b : Nat} (h : a ≤ b) : nameSeq T n a ≤ nameSeq T n b := by
  induction b with
  | zero => have : a = 0 := by omega
            subst this; exact Nat.le_refl _
  | succ b ih =>
    by_cases e : a = b + 1
    · subst e; exact Nat.le_refl _
    · have := ih (by omega)
      simp only [nameSeq]
      split <;> omega
theorem nameSeq_le (a : Nat) : 1 ≤ nameSeq T n a ∧ nameSeq T n a ≤ a + 1 := by
  induction a with
  | zero => simp [nameSeq]
  | succ a ih => simp only [nameSeq]; split <;> omega

theorem ksub_order (F : First T n lo) {a b : Nat} (h : a ≤ b) (hb : b < nLMS T n) : ll (ksub T n (rho T n a)) (ksub T n (rho T n b)) ∨ ksub T n (rho T n a) = ksub T n (rho T n b) := by
  by_cases e : a = b
  · subst e; exact .inr rfl
  · obtain ⟨h1, h2⟩ := rho_spec F (r := a) (by omega)
    obtain ⟨h3, h4⟩ := rho_spec F hb
    have hl := (srank_iff F h1 h3).1 (by omega)
    exact sub_of_k1 _ _ _ (Nat.le_refl _) (by have := h1.2.1; omega) (by have := h3.2.1; omega) hl

theorem nameSeq_eq (F : First T n lo) {a b : Nat} (h : a ≤ b) (hb : b < nLMS T n) (he : nameSeq T n a = nameSeq T n b) : ksub T n (rho T n a) = ksub T n (rho T n b) := by
  induction b with
  | zero => have : a = 0 := by omega
            subst this; rfl
  | succ b ih =>
    by_cases e : a = b + 1
    · subst e; rfl
    · have h1 := nameSeq_mono (T := T) (n := n) (show a ≤ b by omega)
      have h2 := he
      simp only [nameSeq] at h2
      split at h2
      · rename_i hk
        rw [hk]
        exact ih (by omega) (by omega) h2
      · omega

theorem nameSeq_ne (F : First T n lo) {a b : Nat} (h : a ≤ b) (hb : b < nLMS T n) (he : ksub T n (rho T n a) = ksub T n (rho T n b)) : nameSeq T n a = nameSeq T n b := by
  induction b with
  | zero => have : a = 0 := by omega
            subst this; rfl
  | succ b ih =>
    by_cases e : a = b + 1
    · subst e; rfl
    · have h1 := ksub_order F (show a ≤ b by omega) (by omega)
      have h2 := ksub_order F (show b ≤ b + 1 by omega) hb
      have h3 : ksub T n (rho T n b) = ksub T n (rho T n (b + 1)) := by
        rcases h2 with h2 | h2
        · rcases h1 with h1 | h1
          · rw [← he] at h2; exact (ll_asymm h1 h2).elim
          · rw [← he, h1] at h2; exact (ll_irrefl _ h2).elim
        · exact h2
      rw [ih (by omega) (by omega) (he.trans h3.symm)]
      simp only [nameSeq]
      rw [if_pos h3.symm]

theorem name_lt (F : First T n lo) {p q : Nat} (hp : LMS T n p) (hq : LMS T n q) (h : name T n p < name T n q) : ll (ksub T n p) (ksub T n q) := by
  unfold name at h
  have hlt : srank T n p < srank T n q := by
    rcases Nat.lt_or_ge (srank T n p) (srank T n q) with h1 | h1
    · exact h1
    · have := nameSeq_mono (T := T) (n := n) h1; omega
  have h1 := ksub_order F (Nat.le_of_lt hlt) (srank_top hq)
  rw [rho_srank F hp, rho_srank F hq] at h1
  rcases h1 with h1 | h1
  · exact h1
  · have := nameSeq_ne F (Nat.le_of_lt hlt) (srank_top hq) (by rw [rho_srank F hp, rho_srank F hq]; exact h1)
    omega
theorem name_eq (F : First T n lo) {p q : Nat} (hp : LMS T n p) (hq : LMS T n q) (h : name T n p = name T n q) : ksub T n p = ksub T n q := by
  unfold name at h
  rcases Nat.le_total (srank T n p) (srank T n q) with h1 | h1
  · have := nameSeq_eq F h1 (srank_top hq) h
    rwa [rho_srank F hp, rho_srank F hq] at this
  · have := nameSeq_eq F h1 (srank_top hp) h.symm
    rw [rho_srank F hp, rho_srank F hq] at this
    exact this.symm

/-- THE SMALLER TEXT: its suffixes are sorted as the LMS suffixes. -/
theorem reduced (F : First T n lo) {R : Nat → Nat} (hR : ∀ p, LMS T n p → R (idx T n p) + 1 = name T n p) :
    ∀ (f p q : Nat), nLMS T n - idx T n p ≤ f → LMS T n p → LMS T n q → ll (suf R (nLMS T n) (idx T n p)) (suf R (nLMS T n) (idx T n q)) → ll (kfull T n p) (kfull T n q)
  | f, p, q, hf, hp, hq, h => by
    have b1 := idx_lt hp
    have b2 := idx_lt hq
    have c1 := hp.2.1
    have c2 := hq.2.1
    match f with
    | 0 => omega
    | f + 1 =>
      have h0 := h
      rw [suf_step b1, suf_step b2, ll_cons] at h
      have r1 := hR p hp
      have r2 := hR q hq
      rcases h with h | ⟨h, h'⟩
      · exact full_of_sub _ _ _ (Nat.le_refl _) (by omega) (by omega) (name_lt F hp hq (by omega))
      · have hk := name_eq F hp hq (by omega)
        rcases sub_eq _ p q (Nat.le_refl _) (by omega) (by omega) hk with e | ⟨d, n1, n2, hc⟩
        · subst e; exact (ll_irrefl _ h0).elim
        · rw [← idx_next hp n1, ← idx_next hq n2] at h'
          have := reduced F hR f (p + d) (q + d) (by rw [idx_next hp n1]; omega) n1.2.1 n2.2.1 h'
          exact full_shift d p q (fun t ht => hc t (by omega)) (by have := n1.2.1.2.1; omega) (by have := n2.2.1.2.1; omega) this

/-- The LMS places, sorted by their suffixes, at the bottom. -/
structure Srt (T : Nat → Nat) (n : Nat) (sa : Nat → Int) : Prop where
  val : ∀ x, x < nLMS T n → ∃ p, LMS T n p ∧ sa x = (p : Nat)
  sorted : ∀ x y p q, x < y → y < nLMS T n → sa x = (p : Nat) → sa y = (q : Nat) → ll (kfull T n p) (kfull T n q)

/-- If all names differ, the first phase's order serves. -/
theorem Srt.of_top (F : First T n lo) {sb : Nat → Int} (h : Top T n sa) (hm : nameSeq T n (nLMS T n - 1) = nLMS T n) (hpos : 0 < nLMS T n) (hs : ∀ x, x < nLMS T n → sb x = sa (n - nLMS T n + x)) : Srt T n sb := by
  have hv : ∀ x, x < nLMS T n → sb x = rho T n x := fun x hx => by
    obtain ⟨h1, h2⟩ := rho_spec F hx
    have := h.a _ h1
    rw [h2] at this
    rw [hs x hx, this]
  have hinc : ∀ a, a + 1 < nLMS T n → nameSeq T n (a + 1) = nameSeq T n a + 1 := by
    have hex : ∀ b, b < nLMS T n → nameSeq T n b = b + 1 := by
      have key : ∀ d b, b + d = nLMS T n - 1 → nameSeq T n b = b + 1 := by
        intro d
        induction d with
        | zero => intro b hb; rw [show b = nLMS T n - 1 by omega, hm]; omega
        | succ d ih =>
          intro b hb
          have h1 := ih (b + 1) (by omega)
          have h2 := (nameSeq_le (T := T) (n := n) b).2
          simp only [nameSeq] at h1
          split at h1 <;> omega
      exact fun b hb => key (nLMS T n - 1 - b) b (by omega)
    intro a ha
    rw [hex _ ha, hex a (by omega)]
  refine ⟨fun x hx => ⟨rho T n x, (rho_spec F hx).1, hv x hx⟩, ?_⟩
  intro x y p q hxy hy hp hq
  rw [hv x (by omega)] at hp
  rw [hv y hy] at hq
  obtain rfl : rho T n x = p := by omega
  obtain rfl : rho T n y = q := by omega
  obtain ⟨h1, _⟩ := rho_spec F (show x < nLMS T n by omega)
  obtain ⟨h2, _⟩ := rho_spec F hy
  have h3 := h1.2.1
  have h4 := h2.2.1
  refine full_of_sub _ _ _ (Nat.le_refl _) (by omega) (by omega) ?_
  rcases ksub_order F (Nat.le_of_lt hxy) hy with h | h
  · exact h
  · have e := nameSeq_ne F (Nat.le_of_lt hxy) hy h
    have := nameSeq_mono (T := T) (n := n) (show x + 1 ≤ y by omega)
    rw [hinc x (by omega)] at this
    omega

theorem Srt.of_rec (F : First T n lo) {R : Nat → Nat} {dst sb : Nat → Int} (hR : ∀ p, LMS T n p → R (idx T n p) + 1 = name T n p) (hd : IsSA R (nLMS T n) dst)
    (hs : ∀ x, x < nLMS T n → ∀ p, LMS T n p → dst x = (idx T n p : Nat) → sb x = p) : Srt T n sb := by
  have hv : ∀ x, x < nLMS T n → ∃ p, LMS T n p ∧ dst x = (idx T n p : Nat) ∧ sb x = (p : Nat) := fun x hx => by
    obtain ⟨k, hk, e⟩ := hd.val x hx
    obtain ⟨p, hp, e2⟩ := idx_surj hk
    refine ⟨p, hp, by rw [e, e2], hs x hx p hp (by rw [e, e2])⟩
  refine ⟨fun x hx => by obtain ⟨p, hp, _, h⟩ := hv x hx; exact ⟨p, hp, h⟩, ?_⟩
  intro x y p q hxy hy hp hq
  obtain ⟨p', a1, a2, a3⟩ := hv x (by omega)
  obtain ⟨q', b1, b2, b3⟩ := hv y hy
  obtain rfl : p' = p := by omega
  obtain rfl : q' = q := by omega
  exact reduced F hR _ p' q' (Nat.le_refl _) a1 b1 (hd.sorted x y _ _ hxy hy a2 b2)
end
end Sais

/- The plain loops of the sort: counting, bucket bounds, lengths, names, the smaller text, its way back, and laying the sorted LMS places. -/
set_option linter.unusedVariables false
namespace Sais
open Classical

section
variable {T : Nat → Nat} {n lo M i : Nat} {sa P : Nat → Int}

/- COUNTS AND BOUNDS -/
/-- f holds the counts of the first k places' numbers. -/
def Freq (T : Nat → Nat) (M k : Nat) (f : Nat → Int) : Prop := ∀ c, c < M → f c = cnt (fun i => T i = c) k
theorem Freq.init {f : Nat → Int} (h : ∀ c, c < M → f c = 0) : Freq T M 0 f := fun c hc => by rw [h c hc]; rfl
theorem Freq.step {f : Nat → Int} {k : Nat} (h : Freq T M k f) (hk : T k < M) : Freq T M (k + 1) (upd f (T k) (f (T k) + 1)) := by
  intro c hc
  by_cases e : c = T k
  · subst e
    rw [upd_same, h _ hc, cnt_succ_pos (p := fun i => T i = T k) rfl]; omega
  · rw [upd_other _ _ e, h c hc, cnt_succ_neg (p := fun i => T i = c) (fun h => e h.symm)]
theorem Freq.bd {f : Nat → Int} {k c : Nat} (h : Freq T M k f) (hc : c < M) : 0 ≤ f c ∧ f c ≤ k := by
  rw [h c hc]; have := cnt_le (fun i => T i = c) k; omega
theorem start_zero : start T n 0 = 0 := cnt_false fun i _ h => by omega
theorem start_succ {f : Nat → Int} (h : Freq T M n f) {c : Nat} (hc : c < M) : (start T n (c + 1) : Int) = start T n c + f c := by
  rw [start_split, h c hc]; omega

/- LAYING THE SORTED LMS PLACES -/
theorem Srt.all {s : Nat → Int} (h : Srt T n s) {p : Nat} (hp : LMS T n p) : ∃ x, x < nLMS T n ∧ s x = p := by
  have hc : ∀ x, ∃ p, x < nLMS T n → LMS T n p ∧ s x = (p : Nat) := fun x => by
    by_cases hx : x < nLMS T n
    · obtain ⟨p, h1⟩ := h.val x hx; exact ⟨p, fun _ => h1⟩
    · exact ⟨0, fun h => (hx h).elim⟩
  obtain ⟨g, hg⟩ := Classical.axiomOfChoice hc
  obtain ⟨x, hx, e⟩ := inj_surj (n := nLMS T n) (fun x => idx T n (g x)) (fun x hx => idx_lt (hg x hx).1)
    (fun x y hx hy e => by
      have e2 := idx_inj (hg x hx).1 (hg y hy).1 e
      rcases Nat.lt_trichotomy x y with h1 | h1 | h1
      · have := h.sorted x y _ _ h1 hy (hg x hx).2 (hg y hy).2
        rw [e2] at this; exact (ll_irrefl _ this).elim
      · exact h1
      · have := h.sorted y x _ _ h1 hx (hg y hy).2 (hg x hx).2
        rw [e2] at this; exact (ll_irrefl _ this).elim) (idx T n p) (idx_lt hp)
  refine ⟨x, hx, ?_⟩
  rw [(hg x hx).2, idx_inj (hg x hx).1 hp e]

noncomputable abbrev sE (T : Nat → Nat) (n p : Nat) : Nat := slotE T n 0 (kfull T n) p
theorem toE {p : Nat} (h : LMS T n p) : E T n 0 p := ⟨h, h.1⟩
theorem sE_lt {p q : Nat} (hp : LMS T n p) (hq : LMS T n q) : sE T n p < sE T n q ↔ ll (kfull T n p) (kfull T n q) := by
  have H := keys_full (T := T) (n := n) (by have := hp.2.1; omega)
  have := posL_lt H (x := p) (y := q) (.inr (.inl (toE hp))) (.inr (.inl (toE hq)))
  rw [posL_E (toE hp), posL_E (toE hq), keyL_E (toE hp), keyL_E (toE hq)] at this
  rw [← this]; unfold sE; omega
theorem sE_inj {p q : Nat} (hp : LMS T n p) (hq : LMS T n q) (h : sE T n p = sE T n q) : p = q :=
  slotE_inj (keys_full (T := T) (n := n) (by have := hp.2.1; omega)) (toE hp) (toE hq) h
theorem Srt.ge {s : Nat → Int} (h : Srt T n s) : ∀ x p, x < nLMS T n → s x = (p : Nat) → LMS T n p → x ≤ sE T n p
  | 0, _, _, _, _ => Nat.zero_le _
  | x + 1, p, hx, e, hp => by
    obtain ⟨q, hq, e2⟩ := h.val x (by omega)
    have h1 := h.ge x q (by omega) e2 hq
    have h2 := (sE_lt hq hp).2 (h.sorted x (x + 1) q p (by omega) hx e2 e)
    omega

structure Exp (T : Nat → Nat) (n M : Nat) (s : Nat → Int) (i : Nat) (sa P : Nat → Int) (x p b : Nat) : Prop where
  hx : x < nLMS T n
  hp : LMS T n p
  sx : s x = p
  hb : b = sE T n p
  pt : ∀ c, c < M → P c + cnt (fun q => (LMS T n q ∧ T q = c) ∧ ¬ ll (kfull T n q) (kfull T n p)) n = start T n (c + 1)
  low : ∀ y, y < x → sa y = s y
  hi : ∀ q, LMS T n q → i ≤ sE T n q → sa (sE T n q) = q
  z : ∀ y, i ≤ y → y < n → sa y ≠ 0 → ∃ q, LMS T n q ∧ sE T n q = y
  st : (b < i ∧ ∀ q, LMS T n q → (i ≤ sE T n q ↔ ll (kfull T n p) (kfull T n q))) ∨ (x = 0 ∧ ∀ q, LMS T n q → i ≤ sE T n q)

theorem sE_ptr (hM : ∀ i, i < n → T i < M) {p : Nat} (hp : LMS T n p) : sE T n p + cnt (fun q => (LMS T n q ∧ T q = T p) ∧ ¬ ll (kfull T n q) (kfull T n p)) n = start T n (T p + 1) := by
  have e : cnt (fun q => (LMS T n q ∧ T q = T p) ∧ ¬ ll (kfull T n q) (kfull T n p)) n = cnt (fun q => (E T n 0 q ∧ T q = T p) ∧ ¬ ll (kfull T n q) (kfull T n p)) n :=
    cnt_congr fun q _ => ⟨fun h => ⟨⟨toE h.1.1, h.1.2⟩, h.2⟩, fun h => ⟨⟨h.1.1.1, h.1.2⟩, h.2⟩⟩
  have h1 := rank_pos' (n := n) (A := fun q => E T n 0 q ∧ T q = T p) (κ := kfull T n) hp.2.1 ⟨toE hp, rfl⟩
  have h2 := cnt_bucket (T := T) (n := n) (lo := 0) (T p)
  have h3 := start_split (T := T) (n := n) (T p)
  have h4 := cnt_E_le (T := T) (n := n) (lo := 0) (T p)
  rw [e]
  unfold sE slotE
  omega

theorem Exp.init (hM : ∀ i, i < n → T i < M) {s : Nat → Int} (h : Srt T n s) (hm : 0 < nLMS T n) (hP : ∀ c, c < M → P c = start T n (c + 1)) {p : Nat} (hp : LMS T n p) (e : s (nLMS T n - 1) = p) :
    ∃ b : Nat, P (T p) = (b : Int) + 1 ∧ b < n ∧ Exp T n M s n s (drop1 P (T p)) (nLMS T n - 1) p b := by
  have hmax : ∀ q, LMS T n q → ¬ ll (kfull T n p) (kfull T n q) := by
    intro q hq hl
    obtain ⟨y, hy, e2⟩ := h.all hq
    rcases Nat.lt_trichotomy y (nLMS T n - 1) with h1 | h1 | h1
    · exact ll_asymm hl (h.sorted y _ q p h1 (by omega) e2 e)
    · subst h1
      obtain rfl : p = q := by omega
      exact ll_irrefl _ hl
    · omega
  have hone : ∀ q, LMS T n q → ¬ ll (kfull T n q) (kfull T n p) → q = p := fun q hq hl => by
    rcases ll_tri (kfull T n q) (kfull T n p) with h' | h' | h'
    · exact (hl h').elim
    · exact kfull_inj _ q p (Nat.le_refl _) (by have := hq.2.1; omega) (by have := hp.2.1; omega) h'
    · exact (hmax q hq h').elim
  have hcnt : ∀ c, cnt (fun q => (LMS T n q ∧ T q = c) ∧ ¬ ll (kfull T n q) (kfull T n p)) n = if c = T p then 1 else 0 := by
    intro c
    by_cases ec : c = T p
    · rw [if_pos ec, cnt_congr (q := fun q => q = p) (fun q _ => ⟨fun h => hone q h.1.1 h.2, fun h => by subst h; exact ⟨⟨hp, ec.symm⟩, ll_irrefl _⟩⟩), cnt_one hp.2.1]
    · rw [if_neg ec]
      exact cnt_false fun q _ h => ec (by rw [← h.1.2, hone q h.1.1 h.2])
  have hpt := sE_ptr hM hp
  rw [hcnt, if_pos rfl] at hpt
  have hlt := slotE_lt_n (kE := kfull T n) (toE hp)
  refine ⟨sE T n p, by rw [hP _ (hM _ hp.2.1)]; omega, hlt, ?_⟩
  refine ⟨by omega, hp, e, rfl, ?_, fun _ _ => rfl, ?_, ?_, .inl ⟨hlt, fun q hq => ⟨fun h' => ?_, fun h' => (hmax q hq h').elim⟩⟩⟩
  · intro c hc
    unfold drop1
    rw [hcnt]
    by_cases ec : c = T p
    · rw [if_pos ec, if_pos ec, ← ec, hP c hc]; omega
    · rw [if_neg ec, if_neg ec, hP c hc]; omega
  · intro q hq h'
    have := slotE_lt_n (kE := kfull T n) (toE hq)
    unfold sE at h'
    omega
  · intro y h1 h2; omega
  · have := slotE_lt_n (kE := kfull T n) (toE hq)
    unfold sE at h'
    omega

theorem Exp.zero {s : Nat → Int} {x p b : Nat} (hs : Srt T n s) (I : Exp T n M s (i + 1) sa P x p b) (hne : i ≠ b) : Exp T n M s i (upd sa i 0) P x p b := by
  have hge := hs.ge x p I.hx I.sx I.hp
  have hbp := I.hb
  have h1 : ∀ q, LMS T n q → sE T n q ≠ i := by
    intro q hq e
    rcases I.st with ⟨h1, h2⟩ | ⟨h1, h2⟩
    · have h3 : ¬ ll (kfull T n p) (kfull T n q) := fun hl => by have := (h2 q hq).2 hl; omega
      rw [← sE_lt I.hp hq] at h3
      omega
    · have := h2 q hq; omega
  refine ⟨I.hx, I.hp, I.sx, I.hb, I.pt, ?_, ?_, ?_, ?_⟩
  · intro y hy
    have : y ≠ i := by
      rcases I.st with ⟨h2, _⟩ | ⟨h2, _⟩ <;> omega
    rw [upd_other _ _ this]
    exact I.low y hy
  · intro q hq h2
    have := h1 q hq
    rw [upd_other _ _ this]
    exact I.hi q hq (by omega)
  · intro y h2 h3 hne2
    by_cases e : y = i
    · rw [e, upd_same] at hne2; exact (hne2 rfl).elim
    · rw [upd_other _ _ e] at hne2
      exact I.z y (by omega) h3 hne2
  · rcases I.st with ⟨h2, h3⟩ | ⟨h2, h3⟩
    · refine .inl ⟨by omega, fun q hq => ?_⟩
      have := h1 q hq
      rw [← h3 q hq]; omega
    · exact .inr ⟨h2, fun q hq => by have := h3 q hq; omega⟩

theorem Exp.last {s : Nat → Int} {p b : Nat} (hs : Srt T n s) (I : Exp T n M s (i + 1) sa P 0 p b) (he : i = b) : Exp T n M s i (upd sa i p) P 0 p b := by
  have hbp := I.hb
  have hact : ∀ q, LMS T n q → (i + 1 ≤ sE T n q ↔ ll (kfull T n p) (kfull T n q)) := by
    rcases I.st with h | ⟨_, h⟩
    · exact h.2
    · have := h p I.hp; omega
  have hle : ∀ q, LMS T n q → i ≤ sE T n q := by
    intro q hq
    obtain ⟨y, hy, e⟩ := hs.all hq
    by_cases ey : y = 0
    · subst ey
      have := I.sx
      obtain rfl : p = q := by omega
      omega
    · have := hs.sorted 0 y p q (by omega) hy I.sx e
      have := (hact q hq).2 this
      omega
  refine ⟨I.hx, I.hp, I.sx, I.hb, I.pt, fun y hy => by omega, ?_, ?_, .inr ⟨rfl, hle⟩⟩
  · intro q hq h2
    by_cases e : sE T n q = i
    · have := sE_inj hq I.hp (by omega)
      subst this
      rw [e, upd_same]
    · rw [upd_other _ _ e]; exact I.hi q hq (by omega)
  · intro y h2 h3 hne
    by_cases e : y = i
    · exact ⟨p, I.hp, by omega⟩
    · rw [upd_other _ _ e] at hne
      exact I.z y (by omega) h3 hne

theorem Exp.next (hM : ∀ i, i < n → T i < M) {s : Nat → Int} {x p b : Nat} (hs : Srt T n s) (I : Exp T n M s (i + 1) sa P (x + 1) p b) (he : i = b) :
    ∃ q s' : Nat, upd sa i p x = (q : Nat) ∧ LMS T n q ∧ P (T q) = (s' : Int) + 1 ∧ s' < n ∧ Exp T n M s i (upd sa i p) (drop1 P (T q)) x q s' := by
  have hge := hs.ge _ p I.hx I.sx I.hp
  have hxm := I.hx
  have hbp := I.hb
  obtain ⟨q, hq, e⟩ := hs.val x (by omega)
  have hact : ∀ q, LMS T n q → (i + 1 ≤ sE T n q ↔ ll (kfull T n p) (kfull T n q)) := by
    rcases I.st with h | ⟨h, _⟩
    · exact h.2
    · omega
  have hlt := hs.sorted x (x + 1) q p (by omega) I.hx e I.sx
  have hslot := (sE_lt hq I.hp).2 hlt
  have hbetw : ∀ r, LMS T n r → (¬ ll (kfull T n r) (kfull T n q) ↔ (¬ ll (kfull T n r) (kfull T n p) ∨ r = q)) := by
    intro r hr
    constructor
    · intro hnl
      obtain ⟨y, hy, ey⟩ := hs.all hr
      rcases Nat.lt_trichotomy y x with h1 | h1 | h1
      · exact (hnl (hs.sorted y x r q h1 (by omega) ey e)).elim
      · subst h1; exact .inr (by omega)
      · left
        intro hl
        by_cases e2 : y = x + 1
        · subst e2
          have := I.sx
          obtain rfl : p = r := by omega
          exact ll_irrefl _ hl
        · exact ll_asymm hl (hs.sorted (x + 1) y p r (by omega) hy I.sx ey)
    · rintro (h | rfl)
      · exact fun hl => h (ll_trans hl hlt)
      · exact ll_irrefl _
  have hcnt : ∀ c, cnt (fun r => (LMS T n r ∧ T r = c) ∧ ¬ ll (kfull T n r) (kfull T n q)) n = cnt (fun r => (LMS T n r ∧ T r = c) ∧ ¬ ll (kfull T n r) (kfull T n p)) n + if c = T q then 1 else 0 := by
    intro c
    by_cases ec : c = T q
    · rw [if_pos ec]
      refine cnt_insert (a := q) hq.2.1 (fun r _ => ?_) (fun h => h.2 hlt)
      constructor
      · rintro ⟨h1, h2⟩
        rcases (hbetw r h1.1).1 h2 with h3 | h3
        · exact .inl ⟨h1, h3⟩
        · exact .inr h3
      · rintro (⟨h1, h2⟩ | rfl)
        · exact ⟨h1, (hbetw r h1.1).2 (.inl h2)⟩
        · exact ⟨⟨hq, ec.symm⟩, ll_irrefl _⟩
    · rw [if_neg ec, Nat.add_zero]
      refine cnt_congr fun r _ => ⟨fun ⟨h1, h2⟩ => ⟨h1, ?_⟩, fun ⟨h1, h2⟩ => ⟨h1, (hbetw r h1.1).2 (.inl h2)⟩⟩
      rcases (hbetw r h1.1).1 h2 with h3 | h3
      · exact h3
      · exact (ec (by rw [← h1.2, h3])).elim
  have hptr := sE_ptr hM hq
  have hpt := I.pt _ (hM _ hq.2.1)
  have hc := hcnt (T q)
  rw [if_pos rfl] at hc
  have hltn := slotE_lt_n (kE := kfull T n) (toE hq)
  refine ⟨q, sE T n q, ?_, hq, by omega, hltn, ?_⟩
  · rw [upd_other _ _ (by omega), I.low x (by omega), e]
  refine ⟨by omega, hq, e, rfl, ?_, ?_, ?_, ?_, .inl ⟨by omega, fun r hr => ?_⟩⟩
  · intro c hcM
    have := I.pt c hcM
    rw [hcnt]
    unfold drop1
    by_cases ec : c = T q
    · rw [if_pos ec, if_pos ec, ← ec]; omega
    · rw [if_neg ec, if_neg ec]; omega
  · intro y hy
    rw [upd_other _ _ (by omega)]
    exact I.low y (by omega)
  · intro r hr h2
    by_cases e2 : sE T n r = i
    · have := sE_inj hr I.hp (by omega)
      subst this
      rw [e2, upd_same]
    · rw [upd_other _ _ e2]; exact I.hi r hr (by omega)
  · intro y h2 h3 hne
    by_cases e2 : y = i
    · exact ⟨p, I.hp, by omega⟩
    · rw [upd_other _ _ e2] at hne
      exact I.z y (by omega) h3 hne
  · rw [← sE_lt hq hr]
    constructor
    · intro h; omega
    · intro h
      rcases Nat.lt_trichotomy (sE T n r) (sE T n p) with h1 | h1 | h1
      · have h2 := (sE_lt hr I.hp).1 h1
        have h3 := (sE_lt hq hr).1 h
        have h4 := (hbetw r hr).1 (fun hl => ll_asymm hl h3)
        rcases h4 with h4 | h4
        · exact (h4 h2).elim
        · subst h4; omega
      · omega
      · omega

theorem Exp.final {s : Nat → Int} {x p b : Nat} (I : Exp T n M s 0 sa P x p b) : Laid T n 0 (kfull T n) sa :=
  ⟨fun e he => I.hi e he.1 (Nat.zero_le _), fun y hy hne => by obtain ⟨q, hq, e⟩ := I.z y (Nat.zero_le _) hy hne; exact ⟨q, toE hq, e⟩⟩

/- LENGTHS -/
/-- What stands for the length of an LMS substring. -/
structure LenCode (T : Nat → Nat) (n : Nat) (lc : Nat → Int) : Prop where
  last : ∀ p, LMS T n p → (∀ d, ¬ Nx T n p d) → lc p = 0
  kind : ∀ p d, LMS T n p → Nx T n p d → lc p = (d : Int) + 1 ∨ (lc p < 0 ∨ (n : Int) ≤ lc p)
  enc : ∀ p q, LMS T n p → LMS T n q → lc p = lc q → (lc p < 0 ∨ (n : Int) ≤ lc p) → ksub T n p = ksub T n q
  same : ∀ p q, LMS T n p → LMS T n q → ksub T n p = ksub T n q → lc p = lc q
  ne : ∀ p, LMS T n p → lc p ≠ -1
  bd : ∀ p, LMS T n p → -2147483648 ≤ lc p ∧ lc p ≤ 2147483647

structure LenI (T : Nat → Nat) (n : Nat) (lc : Nat → Int) (sa0 : Nat → Int) (j : Nat) (sa : Nat → Int) (e : Nat) : Prop where
  a : ∀ q, LMS T n q → j < q → sa (q / 2) = lc q
  o : ∀ x, (∀ q, LMS T n q → j < q → q / 2 ≠ x) → sa x = sa0 x
  e : ((∀ q, LMS T n q → ¬ j < q) ∧ e = 0) ∨ ∃ q, LMS T n q ∧ j < q ∧ (∀ q', LMS T n q' → j < q' → q ≤ q') ∧ e = q + 1

theorem LenI.init {lc sa0 : Nat → Int} : LenI T n lc sa0 n sa0 0 := by
  have : ∀ q, LMS T n q → ¬ n < q := fun q h => by have := h.2.1; omega
  exact ⟨fun q h1 h2 => (this q h1 h2).elim, fun _ _ => rfl, .inl ⟨this, rfl⟩⟩
theorem LenI.none {lc sa0 : Nat → Int} {j e : Nat} (I : LenI T n lc sa0 (j + 1) sa e) (h : ¬ LMS T n (j + 1)) : LenI T n lc sa0 j sa e := by
  have ee : ∀ q, LMS T n q → (j < q ↔ j + 1 < q) := fun q hq => by
    have : q ≠ j + 1 := fun e => h (e ▸ hq)
    omega
  refine ⟨fun q h1 h2 => I.a q h1 ((ee q h1).1 h2), fun x hx => I.o x fun q h1 h2 => hx q h1 (by omega), ?_⟩
  rcases I.e with ⟨h1, h2⟩ | ⟨q, h1, h2, h3, h4⟩
  · exact .inl ⟨fun q hq hh => h1 q hq ((ee q hq).1 hh), h2⟩
  · exact .inr ⟨q, h1, by omega, fun q' a b => h3 q' a ((ee q' a).1 b), h4⟩
theorem LenI.lms {lc sa0 : Nat → Int} {j e : Nat} (I : LenI T n lc sa0 (j + 1) sa e) (h : LMS T n (j + 1)) : LenI T n lc sa0 j (upd sa ((j + 1) / 2) (lc (j + 1))) (j + 2) := by
  refine ⟨?_, ?_, .inr ⟨j + 1, h, by omega, fun q' _ h' => by omega, rfl⟩⟩
  · intro q h1 h2
    by_cases ee : q = j + 1
    · subst ee; rw [upd_same]
    · rw [upd_other _ _ (fun hh => ee (half_inj h1 h hh))]
      exact I.a q h1 (by omega)
  · intro x hx
    have h1 := hx (j + 1) h (by omega)
    rw [upd_other _ _ (fun hh => h1 hh.symm)]
    exact I.o x fun q h2 h3 => hx q h2 (by omega)
/-- The next LMS place, off the iterator. -/
theorem LenI.nx {lc sa0 : Nat → Int} {j e : Nat} (I : LenI T n lc sa0 (j + 1) sa e) : ((∀ d, ¬ Nx T n (j + 1) d) ∧ e = 0) ∨ ∃ d, Nx T n (j + 1) d ∧ e = j + 1 + d + 1 := by
  rcases I.e with ⟨h1, h2⟩ | ⟨q, h1, h2, h3, h4⟩
  · refine .inl ⟨fun d hd => h1 _ hd.2.1 (by have := hd.1; omega), h2⟩
  · refine .inr ⟨q - (j + 1), ⟨by omega, by rw [show j + 1 + (q - (j + 1)) = q by omega]; exact h1, fun t a b hl => ?_⟩, by omega⟩
    have := h3 _ hl (by omega)
    omega

/- NAMES -/
structure Asg (T : Nat → Nat) (n : Nat) (lc : Nat → Int) (r : Nat) (sa : Nat → Int) (id : Nat) (lastPos : Nat) (lastLen : Int) : Prop where
  don : ∀ a, a < r → sa (rho T n a / 2) = nameSeq T n a
  tod : ∀ a, r ≤ a → a < nLMS T n → sa (rho T n a / 2) = lc (rho T n a)
  top : ∀ a, a < nLMS T n → sa (n - nLMS T n + a) = rho T n a
  z : ∀ x, x < n - nLMS T n → (∀ q, LMS T n q → q / 2 ≠ x) → sa x = 0
  id : id = if r = 0 then 0 else nameSeq T n (r - 1)
  last : if r = 0 then lastLen = -1 else LMS T n lastPos ∧ ksub T n lastPos = ksub T n (rho T n (r - 1)) ∧ lastLen = lc lastPos
  lrk : r ≠ 0 → srank T n lastPos < r

theorem half_low {p : Nat} (h : LMS T n p) : p / 2 < n - nLMS T n := by
  have h1 := nLMS_half (T := T) (n := n) (by have := h.2.1; omega)
  have h2 := LMS_lt h
  omega

theorem Asg.init (F : First T n lo) {lc s0 : Nat → Int} (h : Top T n s0) {e : Nat} (I : LenI T n lc s0 0 sa e) (lp : Nat) : Asg T n lc 0 sa 0 lp (-1) := by
  refine ⟨fun a h => by omega, fun a _ ha => ?_, fun a ha => ?_, fun x hx hq => ?_, rfl, rfl, fun h => (h rfl).elim⟩
  · have := rho_spec F ha
    exact I.a _ this.1 this.1.1
  · have := rho_spec F ha
    rw [I.o _ (fun q hq _ => by have := half_low hq; omega)]
    have h2 := h.a _ this.1
    rwa [this.2] at h2
  · rw [I.o x (fun q h1 _ => hq q h1)]
    exact h.z x hx

/-- Another LMS substring. -/
theorem Asg.new (F : First T n lo) {lc : Nat → Int} {r id lp : Nat} {ll' : Int} (I : Asg T n lc r sa id lp ll') (hr : r < nLMS T n) (h : r = 0 ∨ ksub T n (rho T n r) ≠ ksub T n lp) :
    Asg T n lc (r + 1) (upd sa (rho T n r / 2) ((id : Int) + 1)) (id + 1) (rho T n r) (lc (rho T n r)) := by
  have hR := rho_spec F hr
  have hid : id + 1 = nameSeq T n r := by
    have h1 := I.id
    cases r with
    | zero => simp at h1; simp [nameSeq, h1]
    | succ r =>
      have h2 := I.last
      simp only [Nat.add_sub_cancel, show ¬ r + 1 = 0 by omega, if_false] at h1 h2
      simp only [nameSeq]
      rw [if_neg (fun e => (h.resolve_left (by omega)) (e.trans h2.2.1.symm)), h1]
  refine ⟨?_, ?_, ?_, ?_, by simp [hid], by simp [hR.1], fun _ => by rw [hR.2]; omega⟩
  · intro a ha
    by_cases e : a = r
    · subst e; rw [upd_same, ← hid]; omega
    · have hA := rho_spec F (r := a) (by omega)
      rw [upd_other _ _ (fun hh => e (by rw [← hA.2, ← hR.2, half_inj hA.1 hR.1 hh]))]
      exact I.don a (by omega)
  · intro a ha1 ha2
    have hA := rho_spec F ha2
    rw [upd_other _ _ (fun hh => by have := half_inj hA.1 hR.1 hh; have h1 := hA.2; rw [this, hR.2] at h1; omega)]
    exact I.tod a (by omega) ha2
  · intro a ha
    have := half_low hR.1
    rw [upd_other _ _ (by omega)]
    exact I.top a ha
  · intro x hx hq
    rw [upd_other _ _ (fun e => hq _ hR.1 e.symm)]
    exact I.z x hx hq
/-- The same as the last one. -/
theorem Asg.same (F : First T n lo) {lc : Nat → Int} {r id lp : Nat} {ll' : Int} (I : Asg T n lc r sa id lp ll') (hr : r < nLMS T n) (h0 : r ≠ 0) (h : ksub T n (rho T n r) = ksub T n lp) :
    Asg T n lc (r + 1) (upd sa (rho T n r / 2) id) id lp ll' := by
  have hR := rho_spec F hr
  obtain ⟨r, rfl⟩ : ∃ s, r = s + 1 := ⟨r - 1, by omega⟩
  have h1 := I.id
  have h2 := I.last
  simp only [Nat.add_sub_cancel, show ¬ r + 1 = 0 by omega, if_false] at h1 h2
  have hid : id = nameSeq T n (r + 1) := by
    simp only [nameSeq]
    rw [if_pos (h.trans h2.2.1), h1]
  refine ⟨?_, ?_, ?_, ?_, by simpa using hid, ?_, fun _ => by have := I.lrk h0; omega⟩
  · intro a ha
    by_cases e : a = r + 1
    · subst e; rw [upd_same, ← hid]
    · have hA := rho_spec F (r := a) (by omega)
      rw [upd_other _ _ (fun hh => e (by rw [← hA.2, ← hR.2, half_inj hA.1 hR.1 hh]))]
      exact I.don a (by omega)
  · intro a ha1 ha2
    have hA := rho_spec F ha2
    rw [upd_other _ _ (fun hh => by have := half_inj hA.1 hR.1 hh; have h1 := hA.2; rw [this, hR.2] at h1; omega)]
    exact I.tod a (by omega) ha2
  · intro a ha
    have := half_low hR.1
    rw [upd_other _ _ (by omega)]
    exact I.top a ha
  · intro x hx hq
    rw [upd_other _ _ (fun e => hq _ hR.1 e.symm)]
    exact I.z x hx hq
  · simp only [Nat.add_sub_cancel, show ¬ r + 1 + 1 = 0 by omega, if_false]
    exact ⟨h2.1, h.symm, h2.2.2⟩

/-- Go's test: other lengths: another substring. -/
theorem cmp_len {lc : Nat → Int} (C : LenCode T n lc) {p q : Nat} (hp : LMS T n p) (hq : LMS T n q) (h : lc p ≠ lc q) : ksub T n p ≠ ksub T n q := fun e => h (C.same p q hp hq e)
/-- Equal lengths, no code: the texts decide. -/
theorem cmp_text {lc : Nat → Int} (C : LenCode T n lc) {p q : Nat} (hp : LMS T n p) (hq : LMS T n q) (hne : p ≠ q) (h : lc p = lc q) (h0 : 0 ≤ lc p) (hn : lc p < n) :
    ∃ d : Nat, lc p = (d : Int) + 1 ∧ p + d + 1 < n ∧ q + d + 1 < n ∧ (ksub T n p = ksub T n q ↔ ∀ t, t < d + 1 → T (p + t) = T (q + t)) := by
  have nolast : ∀ a b, LMS T n a → LMS T n b → a ≠ b → lc a = lc b → ∃ d, Nx T n a d := by
    intro a b ha hb hab e
    refine Classical.byContradiction fun hno => ?_
    have h1 := C.last a ha (fun d hd => hno ⟨d, hd⟩)
    by_cases hb' : ∃ d, Nx T n b d
    · obtain ⟨d, hd⟩ := hb'
      rcases C.kind b d hb hd with h2 | h2
      · omega
      · have := ha.2.1; omega
    · -- both are the last one
      have aux : ∀ a b, LMS T n a → LMS T n b → (∀ d, ¬ Nx T n a d) → ¬ a < b := by
        intro a b ha hb hno hlt
        obtain ⟨r, h3, h4, h5⟩ : ∃ r, LMS T n r ∧ a < r ∧ ∀ r', LMS T n r' → a < r' → r ≤ r' := by
          have hb2 := idx_lt hb
          have : idx T n a + 1 < nLMS T n := by
            have := cnt_lt_n (p := LMS T n) (Nat.le_refl a) hlt ha
            unfold idx at *
            omega
          obtain ⟨r, h6, h7⟩ := idx_surj this
          refine ⟨r, h6, ?_, fun r' h8 h9 => ?_⟩
          · rcases Nat.lt_or_ge a r with h8 | h8
            · exact h8
            · have := cnt_mono_n (p := LMS T n) h8
              unfold idx at h7; omega
          · rcases Nat.lt_or_ge r' r with h10 | h10
            · have e1 := cnt_lt_n (p := LMS T n) (Nat.le_refl a) h9 ha
              have e2 := cnt_lt_n (p := LMS T n) (Nat.le_refl r') h10 h8
              unfold idx at h7; omega
            · exact h10
        refine hno (r - a) ⟨by omega, by rw [show a + (r - a) = r by omega]; exact h3, fun t h6 h7 h8 => ?_⟩
        have := h5 _ h8 (by omega)
        omega
      have h6 := aux a b ha hb (fun d hd => hno ⟨d, hd⟩)
      have h7 := aux b a hb ha (fun d hd => hb' ⟨d, hd⟩)
      omega
  obtain ⟨d, hd⟩ := nolast p q hp hq hne h
  obtain ⟨d', hd'⟩ := nolast q p hq hp (fun e => hne e.symm) h.symm
  have e1 : lc p = (d : Int) + 1 := by rcases C.kind p d hp hd with h1 | h1; exact h1; omega
  have e2 : lc q = (d' : Int) + 1 := by rcases C.kind q d' hq hd' with h1 | h1; exact h1; omega
  obtain rfl : d = d' := by omega
  have b1 := LMS_lt hd.2.1
  have b2 := LMS_lt hd'.2.1
  refine ⟨d, e1, by omega, by omega, fun hk t ht => ?_, fun ht => raw_sub hd hd' fun t h1 => ht t (by omega)⟩
  rcases sub_eq _ p q (Nat.le_refl _) (by have := hp.2.1; omega) (by have := hq.2.1; omega) hk with h1 | ⟨d2, n1, n2, hc⟩
  · exact (hne h1).elim
  · obtain rfl := Nx_uniq hd n1
    exact (code_eq (hc t (by omega))).1

theorem Asg.ne_lp (F : First T n lo) {lc : Nat → Int} {r id lp j : Nat} {ll' : Int} (I : Asg T n lc r sa id lp ll') (hr : r < nLMS T n) (hj : rho T n r = j) : r ≠ 0 → j ≠ lp := fun h0 e => by
  have h1 := I.lrk h0
  have h2 := (rho_spec F hr).2
  rw [hj, e] at h2
  omega

/- THE SMALLER TEXT -/
structure MapI (T : Nat → Nat) (n i : Nat) (sa : Nat → Int) (w : Nat) : Prop where
  w : w = n - nLMS T n + idx T n (2 * i)
  don : ∀ q, LMS T n q → i ≤ q / 2 → sa (n - nLMS T n + idx T n q) = (name T n q : Int) - 1
  tod : ∀ q, LMS T n q → q / 2 < i → sa (q / 2) = name T n q
  z : ∀ x, x < i → (∀ q, LMS T n q → q / 2 ≠ x) → sa x = 0

theorem name_pos (p : Nat) : 1 ≤ name T n p := (nameSeq_le _).1
theorem name_le {p : Nat} (hp : LMS T n p) : name T n p ≤ nameSeq T n (nLMS T n - 1) := nameSeq_mono (by have := srank_top hp; omega)

theorem MapI.init (F : First T n lo) {lc : Nat → Int} {id lp : Nat} {l : Int} (I : Asg T n lc (nLMS T n) sa id lp l) : MapI T n (n / 2 + 1) sa n := by
  have hF := F.lms.2.1
  have h1 := nLMS_half (T := T) (n := n) (by omega)
  have e : idx T n (2 * (n / 2 + 1)) = nLMS T n := by
    have h2 : idx T n (n + 1) = nLMS T n := cnt_succ_neg not_LMS_n
    by_cases hh : 2 * (n / 2 + 1) = n + 1
    · rw [hh, h2]
    · have h3 : 2 * (n / 2 + 1) = n + 1 + 1 := by omega
      rw [h3, ← h2]
      exact cnt_succ_neg (fun h => by have := h.2.1; omega)
  refine ⟨by rw [e]; omega, fun q hq h => ?_, fun q hq _ => ?_, fun x hx hq => ?_⟩
  · have := LMS_lt hq; omega
  · have := I.don _ (srank_top hq)
    rwa [rho_srank F hq] at this
  · exact I.z x (by omega) hq

theorem MapI.zero {w : Nat} (I : MapI T n (i + 1) sa w) (h : sa i = 0) : MapI T n i sa w := by
  have hno : ∀ q, LMS T n q → q / 2 ≠ i := fun q hq e => by
    have := I.tod q hq (by omega)
    have h1 := name_pos (T := T) (n := n) q
    rw [e, h] at this; omega
  refine ⟨?_, fun q hq h1 => I.don q hq (by have := hno q hq; omega), fun q hq h1 => I.tod q hq (by omega), fun x hx hq => I.z x (by omega) hq⟩
  rw [I.w]
  have e1 : idx T n (2 * (i + 1)) = idx T n (2 * i) := by
    rw [show 2 * (i + 1) = 2 * i + 1 + 1 by omega]
    unfold idx
    rw [cnt_succ_neg (fun hh => hno _ hh (by omega)), cnt_succ_neg (fun hh => hno _ hh (by omega))]
  rw [e1]

theorem MapI.some {w : Nat} (hn : 0 < n) (hi : i ≤ n / 2) (I : MapI T n (i + 1) sa w) (h : sa i ≠ 0) : 0 < sa i ∧ sa i ≤ n ∧ i < w - 1 ∧ 0 < w ∧ w ≤ n ∧ MapI T n i (upd sa (w - 1) (sa i - 1)) (w - 1) := by
  obtain ⟨q, hq, e⟩ : ∃ q, LMS T n q ∧ q / 2 = i := Classical.byContradiction fun hno => h (I.z i (by omega) fun q hq e => hno ⟨q, hq, e⟩)
  have h1 := nLMS_half (T := T) hn
  have hv := I.tod q hq (by omega)
  have hpos := name_pos (T := T) (n := n) q
  have hnm : name T n q ≤ nLMS T n := by
    have := (nameSeq_le (T := T) (n := n) (srank T n q)).2
    have := srank_top hq
    unfold name; omega
  rw [e] at hv
  have hidx : idx T n (2 * (i + 1)) = idx T n q + 1 ∧ idx T n (2 * i) = idx T n q := by
    rw [show 2 * (i + 1) = 2 * i + 1 + 1 by omega]
    by_cases e2 : q = 2 * i
    · subst e2
      unfold idx
      rw [cnt_succ_neg (LMS_apart hq), cnt_succ_pos hq]
      exact ⟨rfl, rfl⟩
    · have e3 : q = 2 * i + 1 := by omega
      subst e3
      have hno : ¬ LMS T n (2 * i) := fun hh => LMS_apart hh hq
      unfold idx
      rw [cnt_succ_pos hq, cnt_succ_neg hno]
      exact ⟨rfl, rfl⟩
  have hw := I.w
  rw [hidx.1] at hw
  have hil := idx_lt hq
  refine ⟨by omega, by omega, by omega, by omega, by omega, ?_⟩
  refine ⟨by rw [hidx.2]; omega, ?_, ?_, ?_⟩
  · intro q' hq' h2
    by_cases e2 : q' = q
    · subst e2
      rw [show n - nLMS T n + idx T n q' = w - 1 by omega, upd_same, hv]
    · rw [upd_other _ _ (fun hh => e2 (idx_inj hq' hq (by omega)))]
      refine I.don q' hq' ?_
      have : q' / 2 ≠ i := fun e3 => e2 (half_inj hq' hq (by omega))
      omega
  · intro q' hq' h2
    rw [upd_other _ _ (by omega)]
    exact I.tod q' hq' (by omega)
  · intro x hx hq'
    rw [upd_other _ _ (by omega)]
    exact I.z x (by omega) hq'

theorem MapI.final {w : Nat} (I : MapI T n 0 sa w) : w = n - nLMS T n ∧ ∀ p, LMS T n p → sa (n - nLMS T n + idx T n p) = (name T n p : Int) - 1 := by
  refine ⟨?_, fun p hp => I.don p hp (Nat.zero_le _)⟩
  have := I.w
  simpa [idx, cnt] using this

/- AND BACK -/
structure UnI (T : Nat → Nat) (n j : Nat) (u : Nat → Int) (jj : Nat) : Prop where
  jj : jj = idx T n (j + 1)
  a : ∀ q, LMS T n q → j < q → u (idx T n q) = q
theorem UnI.init {u : Nat → Int} : UnI T n n u (nLMS T n) := ⟨(cnt_succ_neg not_LMS_n).symm, fun q hq h => by have := hq.2.1; omega⟩
theorem UnI.none {u : Nat → Int} {j jj : Nat} (I : UnI T n (j + 1) u jj) (h : ¬ LMS T n (j + 1)) : UnI T n j u jj := by
  refine ⟨?_, fun q hq h1 => I.a q hq ?_⟩
  · rw [I.jj]; exact cnt_succ_neg h
  · have : q ≠ j + 1 := fun e => h (e ▸ hq)
    omega
theorem UnI.lms {u : Nat → Int} {j jj : Nat} (I : UnI T n (j + 1) u jj) (h : LMS T n (j + 1)) : 0 < jj ∧ jj ≤ nLMS T n ∧ UnI T n j (upd u (jj - 1) ((j : Int) + 1)) (jj - 1) := by
  have e : jj = idx T n (j + 1) + 1 := by rw [I.jj]; exact cnt_succ_pos h
  have := idx_lt h
  refine ⟨by omega, by omega, by omega, fun q hq h1 => ?_⟩
  by_cases e2 : q = j + 1
  · subst e2
    rw [show idx T n (j + 1) = jj - 1 by omega, upd_same]; omega
  · rw [upd_other _ _ (fun hh => e2 (idx_inj hq h (by omega)))]
    exact I.a q hq (by omega)
end
end Sais
