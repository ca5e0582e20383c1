/- Plain: the reader of RFC 4514 values over the escaped text; what it reads. -/
import Derived.Test.Qxb6601896aEsc
namespace Go.Proofs.Qxb6601896a
open Go.Lib

def hexB (x : Int) : Bool := decide ((48 ≤ x ∧ x ≤ 57) ∨ (97 ≤ x ∧ x ≤ 102) ∨ (65 ≤ x ∧ x ≤ 70))
def hexV (x : Int) : Int := if x ≤ 57 then x - 48 else if 97 ≤ x then x - 87 else x - 55
def okE (d : Int) : Bool := spB d || decide (d = 32 ∨ d = 35 ∨ d = 61)
def badP (x : Int) : Bool := spB x || decide (x < 32 ∨ x = 127)

/-- The reader, from what is left on: 'first': nothing has been read yet; 'psl': the last byte was a plain blank. -/
def rd : Nat → Bool → Bool → List UInt8 → List UInt8 → Option (List UInt8)
  | 0, _, psl, acc, l => if l = [] then (if psl then none else some acc) else none
  | f + 1, first, psl, acc, l =>
    if l = [] then (if psl then none else some acc)
    else if bt l 0 = 92 then
      if 2 < l.length ∧ hexB (bt l 1) = true ∧ hexB (bt l 2) = true then rd f false false (acc ++ [(hexV (bt l 1) * 16 + hexV (bt l 2)).toNat.toUInt8]) (l.drop 3)
      else if 1 < l.length ∧ okE (bt l 1) = true then rd f false false (acc ++ [l.getD 1 0]) (l.drop 2)
      else none
    else if badP (bt l 0) = true then none
    else if first = true ∧ (bt l 0 = 32 ∨ bt l 0 = 35) then none
    else rd f false (decide (bt l 0 = 32)) (acc ++ [l.getD 0 0]) (l.drop 1)

theorem bt_zero (x : UInt8) (t : List UInt8) : bt (x :: t) 0 = (x.toNat : Int) := rfl
theorem bt_one (x y : UInt8) (t : List UInt8) : bt (x :: y :: t) 1 = (y.toNat : Int) := rfl
theorem bt_two (x y z : UInt8) (t : List UInt8) : bt (x :: y :: z :: t) 2 = (z.toNat : Int) := rfl

theorem rd_plain (f : Nat) (first psl : Bool) (acc t : List UInt8) (x : UInt8) (h1 : (x.toNat : Int) ≠ 92) (h2 : badP (x.toNat : Int) = false) (h3 : first = true → (x.toNat : Int) ≠ 32 ∧ (x.toNat : Int) ≠ 35) :
    rd (f + 1) first psl acc (x :: t) = rd f false (decide ((x.toNat : Int) = 32)) (acc ++ [x]) t := by
  rw [rd, if_neg (by simp), bt_zero, if_neg h1, if_neg (by rw [h2]; simp), if_neg]
  · rfl
  · rintro ⟨a, b⟩
    have := h3 a
    omega

theorem rd_esc1 (f : Nat) (first psl : Bool) (acc t : List UInt8) (d : UInt8) (h1 : hexB (d.toNat : Int) = false) (h2 : okE (d.toNat : Int) = true) :
    rd (f + 1) first psl acc (92 :: d :: t) = rd f false false (acc ++ [d]) t := by
  rw [rd, if_neg (by simp), if_pos (by rw [bt_zero]; decide), if_neg (by rw [bt_one, h1]; simp), if_pos (by rw [bt_one, h2]; simp)]
  rfl

theorem rd_hex (f : Nat) (first psl : Bool) (acc t : List UInt8) (d e : UInt8) (h1 : hexB (d.toNat : Int) = true) (h2 : hexB (e.toNat : Int) = true) :
    rd (f + 1) first psl acc (92 :: d :: e :: t) = rd f false false (acc ++ [(hexV (d.toNat : Int) * 16 + hexV (e.toNat : Int)).toNat.toUInt8]) t := by
  rw [rd, if_neg (by simp), if_pos (by rw [bt_zero]; decide), if_pos (by rw [bt_one, bt_two, h1, h2]; simp)]
  rfl

/-- A run of bytes of 128 or more. -/
theorem rd_high : ∀ (c : List UInt8) (f : Nat) (first psl : Bool) (acc t : List UInt8), c ≠ [] → (∀ x ∈ c, 128 ≤ x.toNat) → rd (f + c.length) first psl acc (c ++ t) = rd f false false (acc ++ c) t := by
  intro c
  induction c with
  | nil => intro f first psl acc t h; exact absurd rfl h
  | cons x c ih =>
    intro f first psl acc t _ h
    have hx := h x (List.mem_cons_self ..)
    have hb : badP (x.toNat : Int) = false := by unfold badP spB; simp; omega
    have e : f + (x :: c).length = (f + c.length) + 1 := by simp; omega
    rw [e, List.cons_append, rd_plain _ _ _ _ _ _ (by omega) hb (fun _ => by omega), show decide ((x.toNat : Int) = 32) = false by simp; omega]
    by_cases hc : c = []
    · subst hc; rfl
    · rw [ih f false false (acc ++ [x]) t hc (fun y hy => h y (List.mem_cons_of_mem _ hy)), List.append_assoc]
      rfl

/-- What is read: each rune's bytes, U+FFFD's where the bytes are none. -/
def sanR : Nat → List UInt8 → List UInt8
  | 0, _ => []
  | g + 1, m => if m = [] then [] else if seqAt m 0 = 0 then [239, 191, 189] ++ sanR g (m.drop 1) else m.take (seqAt m 0) ++ sanR g (m.drop (seqAt m 0))

theorem sanR_step (g : Nat) (m : List UInt8) (hm : m ≠ []) : sanR (g + 1) m = encodeRune (decodeL m).1 ++ sanR g (m.drop (decodeL m).2) := by
  rw [sanR, if_neg hm]
  have hb := bt_range m 0
  rcases seq_decL m hm with ⟨a, b, c, d⟩ | ⟨a, b, c⟩ | ⟨a, b, c, d⟩
  · rw [b, c, d, if_neg (by omega), encode_ascii _ hb.1 a]
    cases m with
    | nil => exact absurd rfl hm
    | cons x t => rw [bt_zero]; simp
  · rw [b, c, if_pos rfl]
    rfl
  · rw [if_neg (by omega), encode_decode m hm (by omega), d]

/-- The rune at the front, where it is none of ASCII: its encoding's bytes are all of 128 or more. -/
theorem enc_high (r : Int) (h : 128 ≤ r) : encodeRune r ≠ [] ∧ ∀ x ∈ encodeRune r, 128 ≤ x.toNat := by
  unfold encodeRune encodeRuneZ
  rw [if_neg (by omega)]
  split
  · refine ⟨by simp, ?_⟩
    intro x hx
    simp at hx
    rcases hx with rfl | rfl <;> (simp; omega)
  · split
    · refine ⟨by simp, ?_⟩
      intro x hx
      simp at hx
      rcases hx with rfl | rfl | rfl <;> (simp; omega)
    · split
      · refine ⟨by simp, ?_⟩
        intro x hx
        simp at hx
        rcases hx with rfl | rfl | rfl | rfl <;> (simp; omega)
      · refine ⟨by simp, ?_⟩
        intro x hx
        simp at hx
        rcases hx with rfl | rfl | rfl <;> decide

theorem byte_back (r : Int) (h0 : 0 ≤ r) (h1 : r < 128) : ((r.toNat.toUInt8).toNat : Int) = r := by
  simp; omega

theorem hex_back (r : Int) (h0 : 0 ≤ r) (h1 : r < 128) : hexB ((hexD (r / 16)).toNat : Int) = true ∧ hexB ((hexD (r % 16)).toNat : Int) = true ∧ (hexV ((hexD (r / 16)).toNat : Int) * 16 + hexV ((hexD (r % 16)).toNat : Int)).toNat.toUInt8 = r.toNat.toUInt8 := by
  obtain ⟨k, rfl⟩ := Int.eq_ofNat_of_zero_le h0
  have hk : k < 128 := by omega
  have h : ∀ k : Fin 128, hexB ((hexD ((k.val : Int) / 16)).toNat : Int) = true ∧ hexB ((hexD ((k.val : Int) % 16)).toNat : Int) = true ∧ (hexV ((hexD ((k.val : Int) / 16)).toNat : Int) * 16 + hexV ((hexD ((k.val : Int) % 16)).toNat : Int)).toNat.toUInt8 = (k.val : Int).toNat.toUInt8 := by decide +kernel
  exact h ⟨k, hk⟩

/-- THE READER OVER THE ESCAPED TEXT. -/
theorem rd_escR (n : Nat) : ∀ (g i : Nat) (m : List UInt8) (f : Nat) (first psl : Bool) (acc : List UInt8), m.length ≤ g → i + m.length = n → (first = true → i = 0) → (m = [] → psl = false) → (escR n g i m).length ≤ f →
    rd f first psl acc (escR n g i m) = some (acc ++ sanR g m) := by
  intro g
  induction g with
  | zero =>
    intro i m f first psl acc h1 h2 h3 h4 h5
    have hm : m = [] := List.length_eq_zero_iff.1 (by omega)
    subst hm
    have : escR n 0 i [] = [] := rfl
    rw [this, h4 rfl]
    cases f <;> simp [rd, sanR]
  | succ g ih =>
    intro i m f first psl acc h1 h2 h3 h4 h5
    by_cases hm : m = []
    · subst hm
      have e1 : escR n (g + 1) i [] = [] := rfl
      have e2 : sanR (g + 1) [] = [] := rfl
      rw [e1, e2, h4 rfl]
      cases f <;> simp [rd]
    have hstep : escR n (g + 1) i m = item n i (decodeL m).1 ++ escR n g (i + (decodeL m).2) (m.drop (decodeL m).2) := by rw [escR, if_neg hm]
    rw [hstep] at h5 ⊢
    rw [sanR_step g m hm]
    obtain ⟨_, hw1, hw2, _, _, hw5⟩ := enc_front m hm
    have hb := bt_range m 0
    have hml : 1 ≤ m.length := List.length_pos_iff.2 hm
    have hdl : (m.drop (decodeL m).2).length = m.length - (decodeL m).2 := List.length_drop
    generalize hr : ((decodeL m).1 : Int) = r at *
    generalize hwd : (decodeL m).2 = wd at *
    generalize hrest : escR n g (i + wd) (m.drop wd) = rest at *
    have hlast : (m.drop wd = [] ↔ i + wd = n) := by
      rw [← List.length_eq_zero_iff, hdl]; omega
    have hnext : ∀ (f' : Nat) (psl' : Bool) (acc' : List UInt8), rest.length ≤ f' → (i + wd = n → psl' = false) → rd f' false psl' acc' rest = some (acc' ++ sanR g (m.drop wd)) := by
      intro f' psl' acc' a b
      rw [← hrest] at a ⊢
      exact ih (i + wd) (m.drop wd) f' false psl' acc' (by omega) (by omega) (fun h => by cases h) (fun h => b (hlast.1 h)) a
    have hr0 : 0 ≤ r := by rw [← hr]; omega
    unfold item at h5 ⊢
    by_cases c1 : escB n i r = true
    · rw [if_pos c1] at h5 ⊢
      have hc := c1
      unfold escB spB at hc
      simp only [Bool.or_eq_true, decide_eq_true_eq] at hc
      have ha : r < 128 := by omega
      rw [encode_ascii r hr0 ha] at h5 ⊢
      have hk := byte_back r hr0 ha
      obtain ⟨f, rfl⟩ : ∃ f', f = f' + 1 := ⟨f - 1, by simp at h5; omega⟩
      have e : (92 :: [r.toNat.toUInt8]) ++ rest = 92 :: r.toNat.toUInt8 :: rest := rfl
      rw [e, rd_esc1 _ _ _ _ _ _ (by rw [hk]; unfold hexB; simp; omega) (by rw [hk]; unfold okE spB; simp; omega)]
      rw [hnext f false _ (by simp at h5; omega) (fun _ => rfl), List.append_assoc]
    rw [if_neg c1] at h5 ⊢
    have hc := c1
    unfold escB at hc
    simp only [Bool.or_eq_true, decide_eq_true_eq, not_or] at hc
    obtain ⟨⟨hs1, hs2⟩, hs3⟩ := hc
    have hsp : spB r = false := by simpa using hs1
    by_cases c2 : ctlB r = true
    · rw [if_pos c2] at h5 ⊢
      have hc := c2
      unfold ctlB at hc
      simp only [decide_eq_true_eq] at hc
      have ha : r < 128 := by omega
      obtain ⟨x1, x2, x3⟩ := hex_back r hr0 ha
      obtain ⟨f, rfl⟩ : ∃ f', f = f' + 1 := ⟨f - 1, by simp at h5; omega⟩
      have e : [92, hexD (r / 16), hexD (r % 16)] ++ rest = 92 :: hexD (r / 16) :: hexD (r % 16) :: rest := rfl
      rw [e, rd_hex _ _ _ _ _ _ _ x1 x2, x3, hnext f false _ (by simp at h5; omega) (fun _ => rfl), encode_ascii r hr0 ha, List.append_assoc]
    rw [if_neg c2] at h5 ⊢
    have hct : ¬ (r < 32 ∨ r = 127) := by unfold ctlB at c2; simpa using c2
    by_cases ha : r < 128
    · obtain ⟨hwd1, _⟩ := hw5 ha
      rw [encode_ascii r hr0 ha] at h5 ⊢
      have hk := byte_back r hr0 ha
      obtain ⟨f, rfl⟩ : ∃ f', f = f' + 1 := ⟨f - 1, by simp at h5; omega⟩
      have h92 : r ≠ 92 := by intro e; rw [e] at hsp; revert hsp; decide
      have e : [r.toNat.toUInt8] ++ rest = r.toNat.toUInt8 :: rest := rfl
      rw [e, rd_plain _ _ _ _ _ _ (by rw [hk]; exact h92) (by rw [hk]; unfold badP; rw [hsp]; simp; omega) (fun hf => by rw [hk]; have := h3 hf; omega), hk]
      rw [hnext f _ _ (by simp at h5; omega) (fun hl => by simp; omega), List.append_assoc]
    · obtain ⟨y1, y2⟩ := enc_high r (by omega)
      have hle : (encodeRune r).length ≤ f := by simp at h5; omega
      obtain ⟨f', rfl⟩ : ∃ f', f = f' + (encodeRune r).length := ⟨f - (encodeRune r).length, by omega⟩
      rw [rd_high _ _ _ _ _ _ y1 y2, hnext f' false _ (by simp at h5; omega) (fun _ => rfl), List.append_assoc]

def san (l : List UInt8) : List UInt8 := sanR l.length l

theorem rd_esc (l : List UInt8) (f : Nat) (hf : (esc l).length ≤ f) : rd f true false [] (esc l) = some (san l) := by
  have h := rd_escR l.length l.length 0 l f true false [] (Nat.le_refl _) (by omega) (fun _ => rfl) (fun _ => rfl) hf
  simpa [esc, san] using h

theorem sanR_len : ∀ (g : Nat) (m : List UInt8), (sanR g m).length ≤ 3 * m.length := by
  intro g
  induction g with
  | zero => intro m; simp [sanR]
  | succ g ih =>
    intro m
    by_cases hm : m = []
    · subst hm; simp [sanR]
    · rw [sanR_step g m hm, List.length_append]
      obtain ⟨_, h1, h2, _, h4, _⟩ := enc_front m hm
      have := ih (m.drop (decodeL m).2)
      rw [List.length_drop] at this
      omega

end Go.Proofs.Qxb6601896a
