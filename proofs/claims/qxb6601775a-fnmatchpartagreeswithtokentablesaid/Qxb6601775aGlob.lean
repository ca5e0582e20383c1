namespace Go.Proofs.Qxb6601775a.Glob

/-- A pattern read as tokens ('star i': a star stands at i; 'tok i': the token at i, where it ends and what it takes), and a text of m bytes. -/
structure Pat where
  n : Nat
  m : Nat
  star : Nat → Bool
  tok : Nat → Option (Nat × (Int → Bool))
  txt : Nat → Int

/-- The pattern from i on takes the text from k on, with fuel. -/
def R (P : Pat) : Nat → Nat → Nat → Prop
  | 0, _, _ => False
  | f + 1, i, k => (i = P.n ∧ k = P.m) ∨ (i < P.n ∧ P.star i = true ∧ ∃ k', k ≤ k' ∧ k' ≤ P.m ∧ R P f (i + 1) k')
      ∨ (i < P.n ∧ P.star i = false ∧ k < P.m ∧ ∃ q g, P.tok i = some (q, g) ∧ g (P.txt k) = true ∧ R P f q (k + 1))

def RR (P : Pat) (i k : Nat) : Prop := ∃ f, R P f i k

theorem RR_end (P : Pat) (k : Nat) : RR P P.n k ↔ k = P.m := by
  constructor
  · rintro ⟨f, h⟩
    cases f with
    | zero => exact h.elim
    | succ f =>
      rcases h with h | h | h
      · exact h.2
      · have := h.1; omega
      · have := h.1; omega
  · intro h
    exact ⟨1, Or.inl ⟨rfl, h⟩⟩

theorem RR_star (P : Pat) {i : Nat} (k : Nat) (hi : i < P.n) (hs : P.star i = true) :
    RR P i k ↔ ∃ k', k ≤ k' ∧ k' ≤ P.m ∧ RR P (i + 1) k' := by
  constructor
  · rintro ⟨f, h⟩
    cases f with
    | zero => exact h.elim
    | succ f =>
      rcases h with h | h | h
      · have := h.1; omega
      · obtain ⟨_, _, k', h1, h2, h3⟩ := h
        exact ⟨k', h1, h2, f, h3⟩
      · have := h.2.1; rw [hs] at this; cases this
  · rintro ⟨k', h1, h2, f, h3⟩
    exact ⟨f + 1, Or.inr (Or.inl ⟨hi, hs, k', h1, h2, h3⟩)⟩

theorem RR_tok (P : Pat) {i : Nat} (k : Nat) (hi : i < P.n) (hs : P.star i = false) {q : Nat} {g : Int → Bool} (ht : P.tok i = some (q, g)) :
    RR P i k ↔ k < P.m ∧ g (P.txt k) = true ∧ RR P q (k + 1) := by
  constructor
  · rintro ⟨f, h⟩
    cases f with
    | zero => exact h.elim
    | succ f =>
      rcases h with h | h | h
      · have := h.1; omega
      · have := h.2.1; rw [hs] at this; cases this
      · obtain ⟨_, _, hk, q', g', ht', hg, h3⟩ := h
        rw [ht] at ht'
        cases ht'
        exact ⟨hk, hg, f, h3⟩
  · rintro ⟨hk, hg, f, h3⟩
    exact ⟨f + 1, Or.inr (Or.inr ⟨hi, hs, hk, q, g, ht, hg, h3⟩)⟩

theorem RR_none (P : Pat) {i : Nat} (k : Nat) (hi : i < P.n) (hs : P.star i = false) (ht : P.tok i = none) : ¬ RR P i k := by
  rintro ⟨f, h⟩
  cases f with
  | zero => exact h.elim
  | succ f =>
    rcases h with h | h | h
    · have := h.1; omega
    · have := h.2.1; rw [hs] at this; cases this
    · obtain ⟨_, _, _, q', g', ht', _⟩ := h
      rw [ht] at ht'; cases ht'

theorem R_le (P : Pat) : ∀ f i k, R P f i k → k ≤ P.m := by
  intro f
  cases f with
  | zero => intro i k h; exact h.elim
  | succ f =>
    intro i k h
    rcases h with h | h | h
    · have := h.2; omega
    · obtain ⟨_, _, k', h1, h2, _⟩ := h; omega
    · have := h.2.2.1; omega

theorem RR_le (P : Pat) {i k : Nat} (h : RR P i k) : k ≤ P.m := by
  obtain ⟨f, h⟩ := h; exact R_le P f i k h

/-- A run of stars is one star. -/
theorem skip (P : Pat) (p t : Nat) : ∀ d, (∀ j, p ≤ j → j < p + d + 1 → j < P.n ∧ P.star j = true) →
    (RR P p t ↔ ∃ k', t ≤ k' ∧ k' ≤ P.m ∧ RR P (p + d + 1) k') := by
  intro d
  induction d with
  | zero =>
    intro h
    have h0 := h p (Nat.le_refl _) (by omega)
    exact RR_star P t h0.1 h0.2
  | succ d ih =>
    intro h
    rw [ih (fun j h1 h2 => h j h1 (by omega))]
    have hl := h (p + d + 1) (by omega) (by omega)
    constructor
    · rintro ⟨k', h1, h2, h3⟩
      rw [RR_star P k' hl.1 hl.2] at h3
      obtain ⟨k2, h4, h5, h6⟩ := h3
      exact ⟨k2, by omega, h5, h6⟩
    · rintro ⟨k', h1, h2, h3⟩
      refine ⟨k', h1, h2, ?_⟩
      rw [RR_star P k' hl.1 hl.2]
      exact ⟨k', Nat.le_refl _, h2, h3⟩

/-- What the last-star backtracking keeps true. -/
def Inv (P : Pat) (s : Int) (r t p : Nat) : Prop :=
  (RR P 0 0 ↔ RR P p t ∨ (0 ≤ s ∧ ∃ k, r < k ∧ RR P s.toNat k)) ∧ (0 ≤ s → r ≤ t ∧ ∀ k, RR P s.toNat k → RR P p (k + (t - r)))

theorem inv_start (P : Pat) : Inv P (-1) 0 0 0 := by
  refine ⟨⟨Or.inl, ?_⟩, fun h => by omega⟩
  rintro (h | h)
  · exact h
  · omega

theorem inv_star (P : Pat) {s : Int} {r t p : Nat} (h : Inv P s r t p) (d : Nat) (hd : ∀ j, p ≤ j → j < p + d + 1 → j < P.n ∧ P.star j = true) :
    Inv P ((p + d + 1 : Nat) : Int) t t (p + d + 1) := by
  obtain ⟨h1, h2⟩ := h
  have hk := skip P p t d hd
  refine ⟨?_, fun _ => ⟨Nat.le_refl _, fun k hk => ?_⟩⟩
  · rw [Int.toNat_natCast, h1]
    constructor
    · intro h
      have hp : RR P p t := by
        rcases h with h | ⟨hs, k, hr, hR⟩
        · exact h
        · obtain ⟨h3, h4⟩ := h2 hs
          have h5 := h4 k hR
          rw [skip P p _ d hd] at h5
          obtain ⟨k', h6, h7, h8⟩ := h5
          exact hk.2 ⟨k', by omega, h7, h8⟩
      obtain ⟨k', h6, h7, h8⟩ := hk.1 hp
      by_cases e : k' = t
      · subst e; exact Or.inl h8
      · exact Or.inr ⟨by omega, k', by omega, h8⟩
    · intro h
      refine Or.inl (hk.2 ?_)
      rcases h with h | ⟨_, k, hr, hR⟩
      · exact ⟨t, Nat.le_refl _, RR_le P h, h⟩
      · exact ⟨k, by omega, RR_le P hR, hR⟩
  · rw [Int.toNat_natCast] at hk
    simpa using hk

theorem inv_hit (P : Pat) {s : Int} {r t p : Nat} (h : Inv P s r t p) (hp : p < P.n) (hs : P.star p = false) {q : Nat} {g : Int → Bool} (ht : P.tok p = some (q, g))
    (htm : t < P.m) (hg : g (P.txt t) = true) : Inv P s r (t + 1) q := by
  obtain ⟨h1, h2⟩ := h
  refine ⟨?_, fun h0 => ?_⟩
  · rw [h1, RR_tok P t hp hs ht]
    simp only [htm, hg, true_and]
  · obtain ⟨h3, h4⟩ := h2 h0
    refine ⟨by omega, fun k hk => ?_⟩
    have h5 := h4 k hk
    rw [RR_tok P _ hp hs ht] at h5
    have := h5.2.2
    rwa [show k + (t - r) + 1 = k + (t + 1 - r) by omega] at this

/-- A token that is not met (or the pattern's end ahead of the text's). -/
theorem miss_tok (P : Pat) {t p : Nat} (hp : p < P.n) (hs : P.star p = false) {q : Nat} {g : Int → Bool} (ht : P.tok p = some (q, g)) (hg : g (P.txt t) = false) : ¬ RR P p t := by
  rw [RR_tok P t hp hs ht]; simp [hg]

theorem miss_end (P : Pat) {t p : Nat} (hp : p = P.n) (ht : t < P.m) : ¬ RR P p t := by
  subst hp; rw [RR_end]; omega

theorem inv_back (P : Pat) {s : Int} {r t p : Nat} (h : Inv P s r t p) (hm : ¬ RR P p t) (hs : 0 ≤ s) : Inv P s (r + 1) (r + 1) s.toNat := by
  obtain ⟨h1, h2⟩ := h
  refine ⟨?_, fun _ => ⟨Nat.le_refl _, fun k hk => by simpa using hk⟩⟩
  rw [h1]
  constructor
  · rintro (h | ⟨_, k, hr, hR⟩)
    · exact absurd h hm
    · by_cases e : k = r + 1
      · subst e; exact Or.inl hR
      · exact Or.inr ⟨hs, k, by omega, hR⟩
  · rintro (h | ⟨_, k, hr, hR⟩)
    · exact Or.inr ⟨hs, r + 1, by omega, h⟩
    · exact Or.inr ⟨hs, k, by omega, hR⟩

theorem inv_lost (P : Pat) {s : Int} {r t p : Nat} (h : Inv P s r t p) (hm : ¬ RR P p t) (hs : s < 0) : ¬ RR P 0 0 := by
  rw [h.1]
  rintro (h | h)
  · exact hm h
  · omega

theorem inv_broken (P : Pat) {s : Int} {r t p : Nat} (h : Inv P s r t p) (hp : p < P.n) (hs : P.star p = false) (ht : P.tok p = none) : ¬ RR P 0 0 := by
  rw [h.1]
  rintro (h3 | ⟨h3, k, _, h5⟩)
  · exact RR_none P t hp hs ht h3
  · exact RR_none P _ hp hs ht ((h.2 h3).2 k h5)

/-- At the text's end, p' behind the stars that are left. -/
theorem inv_end (P : Pat) {s : Int} {r p : Nat} (h : Inv P s r P.m p) (p' : Nat) (hp : p ≤ p') (hn : p' ≤ P.n) (hd : ∀ j, p ≤ j → j < p' → P.star j = true) (hx : p' < P.n → P.star p' = false) :
    RR P 0 0 ↔ p' = P.n := by
  have h1 : RR P 0 0 ↔ RR P p P.m := by
    rw [h.1]
    constructor
    · rintro (h3 | ⟨h3, k, h4, h5⟩)
      · exact h3
      · obtain ⟨h6, h7⟩ := h.2 h3
        have := RR_le P (h7 k h5)
        omega
    · exact Or.inl
  have h2 : RR P p P.m ↔ RR P p' P.m := by
    by_cases e : p = p'
    · subst e; exact Iff.rfl
    · obtain ⟨d, rfl⟩ : ∃ d, p' = p + d + 1 := ⟨p' - p - 1, by omega⟩
      rw [skip P p P.m d (fun j a b => ⟨by omega, hd j a b⟩)]
      constructor
      · rintro ⟨k', a, b, c⟩
        have : k' = P.m := by omega
        subst this; exact c
      · intro c; exact ⟨P.m, Nat.le_refl _, Nat.le_refl _, c⟩
  rw [h1, h2]
  constructor
  · intro hR
    by_cases e : p' = P.n
    · exact e
    · have hlt : p' < P.n := by omega
      have hs := hx hlt
      cases ht : P.tok p' with
      | none => exact absurd hR (RR_none P _ hlt hs ht)
      | some qg =>
        obtain ⟨q, g⟩ := qg
        rw [RR_tok P _ hlt hs ht] at hR
        have := hR.1
        omega
  · intro e; subst e; rw [RR_end]

/-! ### The measure of the backtracking -/
def mu (n m : Nat) (s : Int) (r t : Nat) : Nat := (n + 1 - (s + 1).toNat) * ((m + 1) * (m + 1)) + ((m - r) * (m + 1) + (m - t))

theorem mu_star {n m : Nat} {s : Int} {r t r' t' : Nat} {s' : Int} (h1 : -1 ≤ s) (h2 : s < s') (h3 : s' ≤ n) : mu n m s' r' t' < mu n m s r t := by
  unfold mu
  have e : n + 1 - (s + 1).toNat = (n + 1 - (s' + 1).toNat) + ((s' - s).toNat - 1) + 1 := by omega
  have b1 : (m - r') * (m + 1) ≤ m * (m + 1) := Nat.mul_le_mul_right _ (by omega)
  have b2 : m * (m + 1) + (m + 1) = (m + 1) * (m + 1) := by rw [Nat.add_mul m 1, Nat.one_mul]
  rw [e]
  generalize (m + 1) * (m + 1) = X at *
  generalize m * (m + 1) = Y at *
  generalize (m - r') * (m + 1) = Z at *
  generalize (m - r) * (m + 1) = Z' at *
  generalize n + 1 - (s' + 1).toNat = A
  generalize (s' - s).toNat - 1 = B
  rw [Nat.add_mul (A + B) 1 X, Nat.add_mul A B X, Nat.one_mul]
  generalize A * X = C
  generalize B * X = D
  omega

theorem mu_hit {n m : Nat} {s : Int} {r t : Nat} (h : t < m) : mu n m s r (t + 1) < mu n m s r t := by
  unfold mu; omega

theorem mu_back {n m : Nat} {s : Int} {r t t' : Nat} (h : r < m) : mu n m s (r + 1) t' < mu n m s r t := by
  unfold mu
  have e : m - r = (m - (r + 1)) + 1 := by omega
  rw [e, Nat.add_mul (m - (r + 1)) 1, Nat.one_mul]
  omega

/-! ### The table over the text's prefixes -/
def Tab (P : Pat) (cur : Nat → Bool) (i : Nat) : Prop := RR P 0 0 ↔ ∃ k, k ≤ P.m ∧ cur k = true ∧ RR P i k

theorem tab_start (P : Pat) {cur : Nat → Bool} (h0 : cur 0 = true) (h1 : ∀ k, k < P.m → cur (k + 1) = false) : Tab P cur 0 := by
  constructor
  · intro h; exact ⟨0, Nat.zero_le _, h0, h⟩
  · rintro ⟨k, a, b, c⟩
    cases k with
    | zero => exact c
    | succ k => rw [h1 k (by omega)] at b; cases b

theorem tab_star (P : Pat) {cur nxt : Nat → Bool} {i : Nat} (h : Tab P cur i) (hi : i < P.n) (hs : P.star i = true)
    (hn : ∀ k, k ≤ P.m → (nxt k = true ↔ ∃ j, j ≤ k ∧ cur j = true)) : Tab P nxt (i + 1) := by
  unfold Tab at *
  rw [h]
  constructor
  · rintro ⟨k, a, b, c⟩
    rw [RR_star P k hi hs] at c
    obtain ⟨k', d, e, f⟩ := c
    exact ⟨k', e, (hn k' e).2 ⟨k, d, b⟩, f⟩
  · rintro ⟨k, a, b, c⟩
    obtain ⟨j, d, e⟩ := (hn k a).1 b
    refine ⟨j, by omega, e, ?_⟩
    rw [RR_star P j hi hs]
    exact ⟨k, d, a, c⟩

theorem tab_tok (P : Pat) {cur nxt : Nat → Bool} {i : Nat} (h : Tab P cur i) (hi : i < P.n) (hs : P.star i = false) {q : Nat} {g : Int → Bool} (ht : P.tok i = some (q, g))
    (h0 : nxt 0 = false) (hn : ∀ k, k < P.m → nxt (k + 1) = (cur k && g (P.txt k))) : Tab P nxt q := by
  unfold Tab at *
  rw [h]
  constructor
  · rintro ⟨k, a, b, c⟩
    rw [RR_tok P k hi hs ht] at c
    exact ⟨k + 1, by omega, by rw [hn k c.1, b, c.2.1]; rfl, c.2.2⟩
  · rintro ⟨k, a, b, c⟩
    cases k with
    | zero => rw [h0] at b; cases b
    | succ k =>
      rw [hn k (by omega)] at b
      simp only [Bool.and_eq_true] at b
      refine ⟨k, by omega, b.1, ?_⟩
      rw [RR_tok P k hi hs ht]
      exact ⟨by omega, b.2, c⟩

theorem tab_broken (P : Pat) {cur : Nat → Bool} {i : Nat} (h : Tab P cur i) (hi : i < P.n) (hs : P.star i = false) (ht : P.tok i = none) : ¬ RR P 0 0 := by
  unfold Tab at *
  rw [h]
  rintro ⟨k, _, _, c⟩
  exact RR_none P k hi hs ht c

theorem tab_end (P : Pat) {cur : Nat → Bool} {i : Nat} (h : Tab P cur i) (hi : i = P.n) : RR P 0 0 ↔ cur P.m = true := by
  unfold Tab at *
  subst hi
  rw [h]
  constructor
  · rintro ⟨k, a, b, c⟩
    rw [RR_end] at c; subst c; exact b
  · intro b; exact ⟨P.m, Nat.le_refl _, b, (RR_end P _).2 rfl⟩

/-! ### Two small patterns -/
/-- Every token is a byte: the pattern takes the text that is itself. -/
theorem plain_eq (P : Pat) (b : Nat → Int) (hs : ∀ i, i < P.n → P.star i = false) (ht : ∀ i, i < P.n → P.tok i = some (i + 1, fun c => b i == c)) :
    ∀ d i k, i + d = P.n → (RR P i k ↔ k + d = P.m ∧ ∀ j, j < d → b (i + j) = P.txt (k + j)) := by
  intro d
  induction d with
  | zero =>
    intro i k e
    have e : i = P.n := by omega
    subst e
    rw [RR_end]
    constructor
    · intro h; exact ⟨by omega, fun j hj => by omega⟩
    · intro h; have := h.1; omega
  | succ d ih =>
    intro i k e
    have hi : i < P.n := by omega
    rw [RR_tok P k hi (hs i hi) (ht i hi), ih (i + 1) (k + 1) (by omega)]
    simp only [beq_iff_eq]
    constructor
    · rintro ⟨h1, h2, h3, h4⟩
      refine ⟨by omega, fun j hj => ?_⟩
      cases j with
      | zero => simpa using h2
      | succ j => have := h4 j (by omega); rwa [show i + 1 + j = i + (j + 1) by omega, show k + 1 + j = k + (j + 1) by omega] at this
    · rintro ⟨h1, h2⟩
      refine ⟨by omega, by simpa using h2 0 (by omega), by omega, fun j hj => ?_⟩
      have := h2 (j + 1) (by omega)
      rwa [show i + (j + 1) = i + 1 + j by omega, show k + (j + 1) = k + 1 + j by omega] at this

/-- A text whose every byte is a star, or is taken by the token that stands there, is taken whole. -/
theorem self_taken (P : Pat) (hm : P.m = P.n) (ht : ∀ i, i < P.n → P.star i = false → ∃ g : Int → Bool, P.tok i = some (i + 1, g) ∧ g (P.txt i) = true) :
    ∀ d i, i + d = P.n → RR P i i := by
  intro d
  induction d with
  | zero =>
    intro i e
    have e : i = P.n := by omega
    subst e
    rw [RR_end]; exact hm.symm
  | succ d ih =>
    intro i e
    have hi : i < P.n := by omega
    have h1 := ih (i + 1) (by omega)
    cases hs : P.star i with
    | true =>
      rw [RR_star P i hi hs]
      exact ⟨i + 1, by omega, by omega, h1⟩
    | false =>
      obtain ⟨g, h2, h3⟩ := ht i hi hs
      rw [RR_tok P i hi hs h2]
      exact ⟨by omega, h3, h1⟩

end Go.Proofs.Qxb6601775a.Glob
