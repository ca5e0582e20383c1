/- A bracket expression, read by a plain function; no Go in sight but the names of the callees' answers. -/
import Derived.Test.Qxb6601775aPart
import Derived.Test.Qxb6601775aCls
import Derived.Test.Qxb6601775aCut
namespace Go.Proofs.Qxb6601775a
open Go.RowKit Glob
set_option linter.unusedVariables false

/-- Where the class name that opens at p ends, counted from p + 2; negative where no bracket closes it. -/
def clsEnd (s : ByteArray) (p : Nat) : Int := Lib.indexByte (s.extract (p + 2) s.size).data.toList 93
def clsText (s : ByteArray) (p : Nat) : ByteArray := s.extract (p + 2) (p + 2 + (clsEnd s p).toNat)

/-- One round of the expression's reading: an answer, or where to go on, the low end of a range, and what is taken so far. -/
def stp (s : ByteArray) (neg : Bool) (p : Nat) (first : Bool) (low : Int) (ms : Int → Bool) : (Option (Nat × (Int → Bool))) ⊕ (Nat × Int × (Int → Bool)) :=
  if s.size ≤ p then .inl none
  else if byteAt s p = 93 ∧ first = false then .inl (some (p + 1, fun c => ms c != neg))
  else if byteAt s p = 92 then
    if p + 1 = s.size then .inl none
    else .inr (p + 2, byteAt s (p + 1), fun c => ms c || byteAt s (p + 1) == c)
  else if byteAt s p = 45 ∧ 0 ≤ low ∧ p + 1 < s.size ∧ byteAt s (p + 1) ≠ 93 then
    if byteAt s (p + 1) = 92 then
      if p + 2 = s.size then .inl none
      else .inr (p + 3, -1, fun c => ms c || (decide (low ≤ c) && decide (c ≤ byteAt s (p + 2))))
    else .inr (p + 2, -1, fun c => ms c || (decide (low ≤ c) && decide (c ≤ byteAt s (p + 1))))
  else if byteAt s p = 91 ∧ p + 1 < s.size ∧ byteAt s (p + 1) = 58 then
    if clsEnd s p < 0 then .inl none
    else if hasColon (clsText s p) = false then .inr (p + 1, 91, fun c => ms c || c == 91)
    else match clsOf (cutName (clsText s p)).toList with
      | none => .inl none
      | some g => .inr (p + 3 + (clsEnd s p).toNat, -1, fun c => ms c || g c)
  else .inr (p + 1, byteAt s p, fun c => ms c || byteAt s p == c)

def brk (s : ByteArray) (neg : Bool) : Nat → Nat → Bool → Int → (Int → Bool) → Option (Nat × (Int → Bool))
  | 0, _, _, _, _ => none
  | f + 1, p, first, low, ms =>
    match stp s neg p first low ms with
    | .inl r => r
    | .inr (p', low', ms') => brk s neg f p' false low' ms'

theorem brk_done {s : ByteArray} {neg : Bool} {f p : Nat} {first : Bool} {low : Int} {ms : Int → Bool} {r} (h : stp s neg p first low ms = .inl r) : brk s neg (f + 1) p first low ms = r := by
  rw [brk, h]

theorem brk_on {s : ByteArray} {neg : Bool} {f p : Nat} {first : Bool} {low : Int} {ms : Int → Bool} {p' low' ms'} (h : stp s neg p first low ms = .inr (p', low', ms')) :
    brk s neg (f + 1) p first low ms = brk s neg f p' false low' ms' := by
  rw [brk, h]

theorem clsEnd_lt (s : ByteArray) (p : Nat) (h : 0 ≤ clsEnd s p) : p + 2 + (clsEnd s p).toNat < s.size := by
  obtain ⟨k, hk⟩ := Int.eq_ofNat_of_zero_le h
  have h1 := (Lib.indexByte_some (l := (s.extract (p + 2) s.size).data.toList) (c := 93) (o := k) hk).1
  have h2 : k < (s.extract (p + 2) s.size).data.toList.length := by
    rcases Nat.lt_or_ge k (s.extract (p + 2) s.size).data.toList.length with h | h
    · exact h
    · rw [List.getElem?_eq_none h] at h1; cases h1
  have h3 : (s.extract (p + 2) s.size).data.toList.length = s.size - (p + 2) := by simp
  rw [hk]
  simp only [Int.toNat_natCast]
  omega

theorem stp_on_lt {s : ByteArray} {neg : Bool} {p : Nat} {first : Bool} {low : Int} {ms : Int → Bool} {p' low' ms'} (h : stp s neg p first low ms = .inr (p', low', ms')) : p < p' ∧ p' ≤ s.size := by
  unfold stp at h
  by_cases h1 : s.size ≤ p
  · rw [if_pos h1] at h; cases h
  rw [if_neg h1] at h
  by_cases h2 : byteAt s p = 93 ∧ first = false
  · rw [if_pos h2] at h; cases h
  rw [if_neg h2] at h
  by_cases h3 : byteAt s p = 92
  · rw [if_pos h3] at h
    by_cases h4 : p + 1 = s.size
    · rw [if_pos h4] at h; cases h
    · rw [if_neg h4] at h; cases h; omega
  rw [if_neg h3] at h
  by_cases h5 : byteAt s p = 45 ∧ 0 ≤ low ∧ p + 1 < s.size ∧ byteAt s (p + 1) ≠ 93
  · rw [if_pos h5] at h
    obtain ⟨_, _, h52, _⟩ := h5
    by_cases h6 : byteAt s (p + 1) = 92
    · rw [if_pos h6] at h
      by_cases h7 : p + 2 = s.size
      · rw [if_pos h7] at h; cases h
      · rw [if_neg h7] at h; cases h; omega
    · rw [if_neg h6] at h; cases h; omega
  rw [if_neg h5] at h
  by_cases h8 : byteAt s p = 91 ∧ p + 1 < s.size ∧ byteAt s (p + 1) = 58
  · rw [if_pos h8] at h
    by_cases h9 : clsEnd s p < 0
    · rw [if_pos h9] at h; cases h
    rw [if_neg h9] at h
    have hlt := clsEnd_lt s p (by omega)
    by_cases h10 : hasColon (clsText s p) = false
    · rw [if_pos h10] at h; cases h; omega
    rw [if_neg h10] at h
    cases h11 : clsOf (cutName (clsText s p)).toList with
    | none => rw [h11] at h; cases h
    | some g => rw [h11] at h; cases h; omega
  rw [if_neg h8] at h; cases h; omega

theorem stp_done_lt {s : ByteArray} {neg : Bool} {p : Nat} {first : Bool} {low : Int} {ms : Int → Bool} {q g} (h : stp s neg p first low ms = .inl (some (q, g))) : p < q ∧ q ≤ s.size := by
  unfold stp at h
  by_cases h1 : s.size ≤ p
  · rw [if_pos h1] at h; cases h
  rw [if_neg h1] at h
  by_cases h2 : byteAt s p = 93 ∧ first = false
  · rw [if_pos h2] at h; cases h; omega
  rw [if_neg h2] at h
  by_cases h3 : byteAt s p = 92
  · rw [if_pos h3] at h
    by_cases h4 : p + 1 = s.size
    · rw [if_pos h4] at h; cases h
    · rw [if_neg h4] at h; cases h
  rw [if_neg h3] at h
  by_cases h5 : byteAt s p = 45 ∧ 0 ≤ low ∧ p + 1 < s.size ∧ byteAt s (p + 1) ≠ 93
  · rw [if_pos h5] at h
    by_cases h6 : byteAt s (p + 1) = 92
    · rw [if_pos h6] at h
      by_cases h7 : p + 2 = s.size
      · rw [if_pos h7] at h; cases h
      · rw [if_neg h7] at h; cases h
    · rw [if_neg h6] at h; cases h
  rw [if_neg h5] at h
  by_cases h8 : byteAt s p = 91 ∧ p + 1 < s.size ∧ byteAt s (p + 1) = 58
  · rw [if_pos h8] at h
    by_cases h9 : clsEnd s p < 0
    · rw [if_pos h9] at h; cases h
    rw [if_neg h9] at h
    by_cases h10 : hasColon (clsText s p) = false
    · rw [if_pos h10] at h; cases h
    rw [if_neg h10] at h
    cases h11 : clsOf (cutName (clsText s p)).toList with
    | none => rw [h11] at h; cases h
    | some g => rw [h11] at h; cases h
  rw [if_neg h8] at h; cases h

theorem brk_lt (s : ByteArray) (neg : Bool) : ∀ f p first low ms q g, brk s neg f p first low ms = some (q, g) → p < q ∧ q ≤ s.size := by
  intro f
  induction f with
  | zero => intro p first low ms q g h; cases h
  | succ f ih =>
    intro p first low ms q g h
    cases hs : stp s neg p first low ms with
    | inl r =>
      rw [brk_done hs] at h
      subst h
      exact stp_done_lt hs
    | inr x =>
      obtain ⟨p', low', ms'⟩ := x
      rw [brk_on hs] at h
      have h1 := stp_on_lt hs
      have h2 := ih _ _ _ _ _ _ h
      omega

def negAt (s : ByteArray) (p : Nat) : Bool := decide (p < s.size ∧ (byteAt s p = 33 ∨ byteAt s p = 94))

/-- matchBracket's answer: the expression whose bracket stands just ahead of p. -/
def bracket (s : ByteArray) (p : Nat) : Option (Nat × (Int → Bool)) :=
  brk s (negAt s p) (s.size + 1) (if negAt s p then p + 1 else p) true (-1) (fun _ => false)

theorem bracket_lt (s : ByteArray) (p q : Nat) (g : Int → Bool) (h : bracket s p = some (q, g)) : p < q ∧ q ≤ s.size := by
  unfold bracket at h
  have := brk_lt _ _ _ _ _ _ _ _ _ h
  split at this <;> omega

/-- The token that stands at p (no star). -/
def fullTok (s : ByteArray) (p : Nat) : Option (Nat × (Int → Bool)) :=
  if byteAt s p = 63 then some (p + 1, fun _ => true)
  else if byteAt s p = 92 then (if p + 1 = s.size then none else some (p + 2, fun c => byteAt s (p + 1) == c))
  else if byteAt s p = 91 then bracket s (p + 1)
  else some (p + 1, fun c => byteAt s p == c)

theorem fullTok_next (s : ByteArray) : ∀ p q g, p < s.size → fullTok s p = some (q, g) → p < q ∧ q ≤ s.size := by
  intro p q g hp h
  unfold fullTok at h
  by_cases h1 : byteAt s p = 63
  · rw [if_pos h1] at h; cases h; omega
  rw [if_neg h1] at h
  by_cases h2 : byteAt s p = 92
  · rw [if_pos h2] at h
    by_cases h3 : p + 1 = s.size
    · rw [if_pos h3] at h; cases h
    · rw [if_neg h3] at h; cases h; omega
  rw [if_neg h2] at h
  by_cases h4 : byteAt s p = 91
  · rw [if_pos h4] at h; have := bracket_lt s _ _ _ h; omega
  rw [if_neg h4] at h; cases h; omega

/-! ### One round, case by case -/
section
variable {s : ByteArray} {neg : Bool} {p : Nat} {first : Bool} {low : Int} {ms : Int → Bool}

theorem stp_out (h : s.size ≤ p) : stp s neg p first low ms = .inl none := by unfold stp; rw [if_pos h]

theorem stp_close (h : p < s.size) (hb : byteAt s p = 93) (hf : first = false) : stp s neg p first low ms = .inl (some (p + 1, fun c => ms c != neg)) := by
  unfold stp; rw [if_neg (by omega), if_pos ⟨hb, hf⟩]

theorem stp_esc_end (h : p < s.size) (hb : byteAt s p = 92) (he : p + 1 = s.size) : stp s neg p first low ms = .inl none := by
  unfold stp; rw [if_neg (by omega), if_neg (by omega), if_pos hb, if_pos he]

theorem stp_esc (h : p < s.size) (hb : byteAt s p = 92) (he : p + 1 < s.size) : stp s neg p first low ms = .inr (p + 2, byteAt s (p + 1), fun c => ms c || byteAt s (p + 1) == c) := by
  unfold stp; rw [if_neg (by omega), if_neg (by omega), if_pos hb, if_neg (by omega)]

theorem stp_rng_esc_end (h : p < s.size) (hb : byteAt s p = 45) (hl : 0 ≤ low) (h1 : p + 1 < s.size) (hb1 : byteAt s (p + 1) = 92) (he : p + 2 = s.size) : stp s neg p first low ms = .inl none := by
  unfold stp; rw [if_neg (by omega), if_neg (by omega), if_neg (by omega), if_pos ⟨hb, hl, h1, by omega⟩, if_pos hb1, if_pos he]

theorem stp_rng_esc (h : p < s.size) (hb : byteAt s p = 45) (hl : 0 ≤ low) (h1 : p + 1 < s.size) (hb1 : byteAt s (p + 1) = 92) (he : p + 2 < s.size) :
    stp s neg p first low ms = .inr (p + 3, -1, fun c => ms c || (decide (low ≤ c) && decide (c ≤ byteAt s (p + 2)))) := by
  unfold stp; rw [if_neg (by omega), if_neg (by omega), if_neg (by omega), if_pos ⟨hb, hl, h1, by omega⟩, if_pos hb1, if_neg (by omega)]

theorem stp_rng (h : p < s.size) (hb : byteAt s p = 45) (hl : 0 ≤ low) (h1 : p + 1 < s.size) (hb1 : byteAt s (p + 1) ≠ 92) (hb2 : byteAt s (p + 1) ≠ 93) :
    stp s neg p first low ms = .inr (p + 2, -1, fun c => ms c || (decide (low ≤ c) && decide (c ≤ byteAt s (p + 1)))) := by
  unfold stp; rw [if_neg (by omega), if_neg (by omega), if_neg (by omega), if_pos ⟨hb, hl, h1, hb2⟩, if_neg hb1]

theorem stp_cls_open (h : p < s.size) (hb : byteAt s p = 91) (h1 : p + 1 < s.size) (hb1 : byteAt s (p + 1) = 58) (hE : clsEnd s p < 0) : stp s neg p first low ms = .inl none := by
  unfold stp; rw [if_neg (by omega), if_neg (by omega), if_neg (by omega), if_neg (by omega), if_pos ⟨hb, h1, hb1⟩, if_pos hE]

theorem stp_cls_lit (h : p < s.size) (hb : byteAt s p = 91) (h1 : p + 1 < s.size) (hb1 : byteAt s (p + 1) = 58) (hE : 0 ≤ clsEnd s p) (hc : hasColon (clsText s p) = false) :
    stp s neg p first low ms = .inr (p + 1, 91, fun c => ms c || c == 91) := by
  unfold stp; rw [if_neg (by omega), if_neg (by omega), if_neg (by omega), if_neg (by omega), if_pos ⟨hb, h1, hb1⟩, if_neg (by omega), if_pos hc]

theorem stp_cls_unknown (h : p < s.size) (hb : byteAt s p = 91) (h1 : p + 1 < s.size) (hb1 : byteAt s (p + 1) = 58) (hE : 0 ≤ clsEnd s p) (hc : hasColon (clsText s p) = true)
    (hu : clsOf (cutName (clsText s p)).toList = none) : stp s neg p first low ms = .inl none := by
  unfold stp; rw [if_neg (by omega), if_neg (by omega), if_neg (by omega), if_neg (by omega), if_pos ⟨hb, h1, hb1⟩, if_neg (by omega), if_neg (by rw [hc]; simp), hu]

theorem stp_cls (h : p < s.size) (hb : byteAt s p = 91) (h1 : p + 1 < s.size) (hb1 : byteAt s (p + 1) = 58) (hE : 0 ≤ clsEnd s p) (hc : hasColon (clsText s p) = true)
    {g : Int → Bool} (hu : clsOf (cutName (clsText s p)).toList = some g) : stp s neg p first low ms = .inr (p + 3 + (clsEnd s p).toNat, -1, fun c => ms c || g c) := by
  unfold stp; rw [if_neg (by omega), if_neg (by omega), if_neg (by omega), if_neg (by omega), if_pos ⟨hb, h1, hb1⟩, if_neg (by omega), if_neg (by rw [hc]; simp), hu]

theorem stp_lit (h : p < s.size) (h93 : byteAt s p = 93 → first = true) (h92 : byteAt s p ≠ 92) (hr : byteAt s p = 45 → low < 0 ∨ s.size ≤ p + 1 ∨ byteAt s (p + 1) = 93)
    (hc : byteAt s p = 91 → s.size ≤ p + 1 ∨ byteAt s (p + 1) ≠ 58) : stp s neg p first low ms = .inr (p + 1, byteAt s p, fun c => ms c || byteAt s p == c) := by
  unfold stp
  rw [if_neg (by omega), if_neg (by rintro ⟨a, b⟩; rw [h93 a] at b; cases b), if_neg h92, if_neg (by rintro ⟨a, b, d, e⟩; have := hr a; omega), if_neg (by rintro ⟨a, b, d⟩; have := hc a; omega)]
end

theorem next_ok {s : ByteArray} {neg : Bool} {f p : Nat} {first : Bool} {low : Int} {ms : Int → Bool} {R0 p' low' ms'} (hb : brk s neg (f + 1) p first low ms = R0) (h : stp s neg p first low ms = .inr (p', low', ms')) :
    brk s neg f p' false low' ms' = R0 := by rw [← brk_on h]; exact hb

theorem done_ok {s : ByteArray} {neg : Bool} {f p : Nat} {first : Bool} {low : Int} {ms : Int → Bool} {R0 r} (hb : brk s neg (f + 1) p first low ms = R0) (h : stp s neg p first low ms = .inl r) : R0 = r := by
  rw [← hb]; exact brk_done h

end Go.Proofs.Qxb6601775a
