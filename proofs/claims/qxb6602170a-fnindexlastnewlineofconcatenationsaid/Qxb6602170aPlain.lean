/- Plain: the last line feed. -/
namespace Go.Proofs.Qxb6602170a

/-- The last line feed of the first n bytes of z, or -1. -/
def lastNL (z : Nat → Int) : Nat → Int
  | 0 => -1
  | n + 1 => if z n = 10 then (n : Int) else lastNL z n

theorem last_skip {z : Nat → Int} {s : Nat} : ∀ {n : Nat}, s ≤ n → (∀ j, s ≤ j → j < n → z j ≠ 10) → lastNL z n = lastNL z s
  | 0, h, _ => by rw [show s = 0 from by omega]
  | n + 1, h, hno => by
    by_cases e : s = n + 1
    · rw [e]
    · rw [lastNL, if_neg (hno n (by omega) (by omega))]
      exact last_skip (by omega) (fun j h1 h2 => hno j h1 (by omega))

theorem last_at {z : Nat → Int} {l n : Nat} (h : l < n) (h10 : z l = 10) (hno : ∀ j, l + 1 ≤ j → j < n → z j ≠ 10) : lastNL z n = l := by
  rw [last_skip (s := l + 1) (by omega) hno, lastNL, if_pos h10]

theorem last_cases (z : Nat → Int) : ∀ n, (lastNL z n = -1 ∧ ∀ j, j < n → z j ≠ 10) ∨ ∃ i : Nat, lastNL z n = i ∧ i < n ∧ z i = 10 ∧ ∀ j, i + 1 ≤ j → j < n → z j ≠ 10
  | 0 => Or.inl ⟨rfl, fun j hj => by omega⟩
  | n + 1 => by
    by_cases e : z n = 10
    · exact Or.inr ⟨n, by rw [lastNL, if_pos e], by omega, e, fun j h1 h2 => by omega⟩
    · rw [lastNL, if_neg e]
      rcases last_cases z n with ⟨h1, h2⟩ | ⟨i, h1, h2, h3, h4⟩
      · refine Or.inl ⟨h1, fun j hj => ?_⟩
        by_cases e2 : j = n
        · rw [e2]; exact e
        · exact h2 j (by omega)
      · refine Or.inr ⟨i, h1, by omega, h3, fun j h5 h6 => ?_⟩
        by_cases e2 : j = n
        · rw [e2]; exact e
        · exact h4 j h5 (by omega)

/-- y behind the first n bytes of z. -/
def catZ (z y : Nat → Int) (n k : Nat) : Int := if k < n then z k else y (k - n)

theorem cat_left {z y : Nat → Int} {n k : Nat} (h : k < n) : catZ z y n k = z k := by unfold catZ; rw [if_pos h]
theorem cat_right (z y : Nat → Int) (n k : Nat) : catZ z y n (n + k) = y k := by
  unfold catZ
  rw [if_neg (by omega), show n + k - n = k from by omega]

theorem last_congr {z y : Nat → Int} : ∀ {n : Nat}, (∀ j, j < n → z j = y j) → lastNL z n = lastNL y n
  | 0, _ => rfl
  | n + 1, h => by
    rw [lastNL, lastNL, h n (by omega), last_congr (fun j hj => h j (by omega))]

theorem last_cat_none (z y : Nat → Int) (n m : Nat) (h : ∀ j, j < m → y j ≠ 10) : lastNL (catZ z y n) (n + m) = lastNL z n := by
  rw [last_skip (s := n) (by omega) (fun j h1 h2 => by
    have := h (j - n) (by omega)
    rw [← cat_right z y n (j - n), show n + (j - n) = j from by omega] at this
    exact this)]
  exact last_congr fun j hj => cat_left hj

theorem last_cat_some (z y : Nat → Int) (n m i : Nat) (h1 : i < m) (h2 : y i = 10) (h3 : ∀ j, i + 1 ≤ j → j < m → y j ≠ 10) : lastNL (catZ z y n) (n + m) = ((n + i : Nat) : Int) := by
  refine last_at (by omega) (by rw [cat_right]; exact h2) (fun j h4 h5 => ?_)
  have := h3 (j - n) (by omega) (by omega)
  rw [← cat_right z y n (j - n), show n + (j - n) = j from by omega] at this
  exact this
end Go.Proofs.Qxb6602170a
