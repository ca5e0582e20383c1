/- Plain: what the head's end is; two searches that answer so answer alike. -/
namespace Go.Proofs.Qxb6602146a

/-- Byte k of the text CR LF followed by z. -/
def G (z : Nat → Int) (k : Nat) : Int := if k = 0 then 13 else if k = 1 then 10 else z (k - 2)

theorem G0 (z : Nat → Int) : G z 0 = 13 := rfl
theorem G1 (z : Nat → Int) : G z 1 = 10 := rfl
theorem G2 (z : Nat → Int) (k : Nat) : G z (k + 2) = z k := by
  unfold G
  rw [if_neg (by omega), if_neg (by omega)]
  rfl

def isBlank (z : Nat → Int) (p : Nat) : Prop := G z p = 13 ∧ G z (p + 1) = 10 ∧ G z (p + 2) = 13 ∧ G z (p + 3) = 10
def isBare (z : Nat → Int) (k : Nat) : Prop := G z (k + 2) = 10 ∧ G z (k + 1) ≠ 13

/-- The answer r, b is right for the first n bytes of z. -/
def Ans (z : Nat → Int) (n : Nat) (r : Int) (b : Bool) : Prop :=
  ((∃ k, k < n ∧ isBare z k ∧ ∀ p, p + 2 ≤ k → ¬ isBlank z p) ∧ r = 0 ∧ b = false) ∨
  (∃ p, p + 1 < n ∧ isBlank z p ∧ (∀ k, k < p + 2 → ¬ isBare z k) ∧ (∀ q, q < p → ¬ isBlank z q) ∧ r = (p : Int) + 2 ∧ b = true) ∨
  ((∀ k, k < n → ¬ isBare z k) ∧ (∀ p, p + 1 < n → ¬ isBlank z p) ∧ r = 0 ∧ b = true)

theorem Ans.one {z : Nat → Int} {n : Nat} {r r' : Int} {b b' : Bool} (h : Ans z n r b) (h' : Ans z n r' b') : r = r' ∧ b = b' := by
  rcases h with ⟨⟨k, h1, h2, h3⟩, rfl, rfl⟩ | ⟨p, h1, h2, h3, h4, rfl, rfl⟩ | ⟨h1, h2, rfl, rfl⟩ <;>
  rcases h' with ⟨⟨k', h1', h2', h3'⟩, rfl, rfl⟩ | ⟨p', h1', h2', h3', h4', rfl, rfl⟩ | ⟨h1', h2', rfl, rfl⟩
  · exact ⟨rfl, rfl⟩
  · exfalso
    by_cases e : k < p' + 2
    · exact h3' k e h2
    · exact h3 p' (by omega) h2'
  · exact absurd h2 (h1' k h1)
  · exfalso
    by_cases e : k' < p + 2
    · exact h3 k' e h2'
    · exact h3' p (by omega) h2
  · have e : p = p' := by
      rcases Nat.lt_trichotomy p p' with e | e | e
      · exact absurd h2 (h4' p e)
      · exact e
      · exact absurd h2' (h4 p' e)
    subst e
    exact ⟨rfl, rfl⟩
  · exact absurd h2 (h2' p h1)
  · exact absurd h2' (h1 k' h1')
  · exact absurd h2' (h2 p' h1')
  · exact ⟨rfl, rfl⟩

/-- What headEnd knows ahead of a line that starts at s. -/
def Inv (z : Nat → Int) (s : Nat) : Prop :=
  G z s = 13 ∧ G z (s + 1) = 10 ∧ (∀ k, k < s → ¬ isBare z k) ∧ (∀ p, p + 2 ≤ s → ¬ isBlank z p)

theorem inv0 (z : Nat → Int) : Inv z 0 := ⟨rfl, rfl, fun k hk => by omega, fun p hp => by omega⟩

theorem noLF {z : Nat → Int} {s i : Nat} (hno : ∀ j, s ≤ j → j < i → z j ≠ 10) {q : Nat} (h10 : G z (q + 1) = 10) (hq : q < i + 1) (hs : s + 1 ≤ q) : False := by
  obtain ⟨j, rfl⟩ : ∃ j, q = j + 1 := ⟨q - 1, by omega⟩
  rw [G2] at h10
  exact hno j (by omega) (by omega) h10

theorem ans_none {z : Nat → Int} {n s : Nat} (h : Inv z s) (hno : ∀ j, s ≤ j → j < n → z j ≠ 10) : Ans z n 0 true := by
  obtain ⟨h1, h2, h3, h4⟩ := h
  refine Or.inr (Or.inr ⟨fun k hk hb => ?_, fun p hp hb => ?_, rfl, rfl⟩)
  · by_cases e : k < s
    · exact h3 k e hb
    · exact noLF hno (q := k + 1) hb.1 (by omega) (by omega)
  · by_cases e : p + 2 ≤ s
    · exact h4 p e hb
    · exact noLF hno (q := p + 2) hb.2.2.2 (by omega) (by omega)

theorem ans_bare {z : Nat → Int} {n s i : Nat} (h : Inv z s) (hs : s ≤ i) (hi : i < n) (hno : ∀ j, s ≤ j → j < i → z j ≠ 10) (h10 : z i = 10) (hb : i = 0 ∨ z (i - 1) ≠ 13) : Ans z n 0 false := by
  obtain ⟨h1, h2, h3, h4⟩ := h
  refine Or.inl ⟨⟨i, hi, ⟨by rw [G2]; exact h10, ?_⟩, fun p hp hbl => ?_⟩, rfl, rfl⟩
  · by_cases e : i = 0
    · subst e; rw [G1]; decide
    · obtain ⟨t, rfl⟩ : ∃ t, i = t + 1 := ⟨i - 1, by omega⟩
      rw [G2]
      rcases hb with hb | hb
      · omega
      · exact hb
  · by_cases e : p + 2 ≤ s
    · exact h4 p e hbl
    · exact noLF hno (q := p + 2) hbl.2.2.2 (by omega) (by omega)

theorem ans_blank {z : Nat → Int} {n s : Nat} (h : Inv z s) (hi : s + 1 < n) (h13 : z s = 13) (h10 : z (s + 1) = 10) : Ans z n ((s : Int) + 2) true := by
  obtain ⟨h1, h2, h3, h4⟩ := h
  refine Or.inr (Or.inl ⟨s, hi, ⟨h1, h2, by rw [G2]; exact h13, by rw [show s + 3 = (s + 1) + 2 from rfl, G2]; exact h10⟩, fun k hk hb => ?_, fun q hq hb => ?_, rfl, rfl⟩)
  · by_cases e : k < s
    · exact h3 k e hb
    · by_cases e2 : k = s
      · subst e2
        have := hb.1
        rw [G2, h13] at this
        exact absurd this (by decide)
      · obtain rfl : k = s + 1 := by omega
        have := hb.2
        rw [show s + 1 + 1 = s + 2 from rfl, G2] at this
        exact this h13
  · by_cases e : q + 2 ≤ s
    · exact h4 q e hb
    · obtain rfl : s = q + 1 := by omega
      have := hb.2.2.2
      rw [show q + 3 = (q + 1) + 2 from rfl, G2, h13] at this
      exact absurd this (by decide)

theorem inv_next {z : Nat → Int} {s i : Nat} (h : Inv z s) (hs : s ≤ i) (hno : ∀ j, s ≤ j → j < i → z j ≠ 10) (h10 : z i = 10) (h0 : i ≠ 0) (h13 : z (i - 1) = 13) (hne : i ≠ s + 1) : Inv z (i + 1) := by
  obtain ⟨h1, h2, h3, h4⟩ := h
  obtain ⟨t, rfl⟩ : ∃ t, i = t + 1 := ⟨i - 1, by omega⟩
  simp only [Nat.add_sub_cancel] at h13
  have hts : s ≤ t := by
    rcases Nat.lt_or_ge t s with e | e
    · obtain rfl : s = t + 1 := by omega
      rw [G2, h13] at h2
      exact absurd h2 (by decide)
    · exact e
  refine ⟨by rw [G2]; exact h13, by rw [show t + 1 + 1 + 1 = (t + 1) + 2 from rfl, G2]; exact h10, fun k hk hb => ?_, fun p hp hb => ?_⟩
  · by_cases e : k < s
    · exact h3 k e hb
    · by_cases e2 : k = t + 1
      · subst e2
        have := hb.2
        rw [show t + 1 + 1 = t + 2 from rfl, G2] at this
        exact this h13
      · exact noLF hno (q := k + 1) hb.1 (by omega) (by omega)
  · by_cases e : p + 2 ≤ s
    · exact h4 p e hb
    · by_cases e2 : p = t
      · subst e2
        exact noLF hno (q := p) hb.2.1 (by omega) (by omega)
      · exact noLF hno (q := p + 2) hb.2.2.2 (by omega) (by omega)

/-- What the model's two searches find. -/
def Fst (P : Nat → Prop) (n : Nat) (r : Int) : Prop := (r = -1 ∧ ∀ p, p < n → ¬ P p) ∨ ∃ p : Nat, r = p ∧ p < n ∧ P p ∧ ∀ q, q < p → ¬ P q

theorem fst_some (P : Nat → Prop) : ∀ n, (∀ p, p < n → ¬ P p) ∨ ∃ p, p < n ∧ P p ∧ ∀ q, q < p → ¬ P q
  | 0 => Or.inl fun p hp => by omega
  | n + 1 => by
    rcases fst_some P n with h | ⟨p, h1, h2, h3⟩
    · by_cases e : P n
      · exact Or.inr ⟨n, by omega, e, h⟩
      · refine Or.inl fun p hp => ?_
        by_cases e2 : p = n
        · subst e2; exact e
        · exact h p (by omega)
    · exact Or.inr ⟨p, by omega, h2, h3⟩
end Go.Proofs.Qxb6602146a
