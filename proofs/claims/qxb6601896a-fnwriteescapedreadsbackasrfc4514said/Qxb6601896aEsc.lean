/- Plain: the escaped text: it is made of whole sequences, and bounded. -/
import Derived.Test.Qxb6601896aUtf
namespace Go.Proofs.Qxb6601896a
open Go.Lib

/-! ### Whole sequences -/
/-- c is one whole sequence, whatever stands behind it. -/
def Chunk (c : List UInt8) : Prop := c ≠ [] ∧ ∀ t, seqAt (c ++ t) 0 = c.length

theorem bt_app (c t : List UInt8) (k : Nat) (h : k < c.length) : bt (c ++ t) k = bt c k := by
  unfold bt; simp [List.getD, List.getElem?_append_left h]

theorem chunk_ascii (b : UInt8) (h : b.toNat < 128) : Chunk [b] := by
  refine ⟨by simp, fun t => ?_⟩
  unfold seqAt seqI
  rw [if_pos (by show ((b.toNat : Nat) : Int) < 128; omega)]; rfl

theorem chunk_seq (l : List UInt8) (h2 : 2 ≤ seqAt l 0) (hl : seqAt l 0 ≤ l.length) : Chunk (l.take (seqAt l 0)) := by
  have hlen : (l.take (seqAt l 0)).length = seqAt l 0 := by rw [List.length_take]; omega
  refine ⟨fun e => by rw [e] at hlen; simp at hlen; omega, fun t => ?_⟩
  rw [hlen]
  generalize hk : seqAt l 0 = k at *
  have b_at : ∀ j, j < k → bt (l.take k ++ t) j = bt l j := by
    intro j hj
    rw [bt_app _ _ _ (by omega)]
    unfold bt; simp [List.getD, hj]
  have hn : k ≤ (l.take k ++ t).length := by rw [List.length_append, hlen]; omega
  unfold seqAt seqI at hk ⊢
  simp only [Nat.sub_zero, Nat.zero_add] at hk ⊢
  rw [b_at 0 (by omega), b_at 1 (by omega)]
  by_cases c0 : bt l 0 < 128
  · rw [if_pos c0] at hk; omega
  rw [if_neg c0] at hk ⊢
  by_cases c1 : (clsB (bt l 0)).1 = 0
  · rw [if_pos c1] at hk; omega
  rw [if_neg c1] at hk ⊢
  by_cases c2 : l.length < (clsB (bt l 0)).1
  · rw [if_pos c2] at hk; omega
  rw [if_neg c2] at hk
  by_cases c3 : ¬ ((clsB (bt l 0)).2.1 ≤ bt l 1 ∧ bt l 1 ≤ (clsB (bt l 0)).2.2)
  · rw [if_pos c3] at hk; omega
  rw [if_neg c3] at hk
  by_cases c4 : 3 ≤ (clsB (bt l 0)).1 ∧ ¬ (128 ≤ bt l 2 ∧ bt l 2 ≤ 191)
  · rw [if_pos c4] at hk; omega
  rw [if_neg c4] at hk
  by_cases c5 : 4 ≤ (clsB (bt l 0)).1 ∧ ¬ (128 ≤ bt l 3 ∧ bt l 3 ≤ 191)
  · rw [if_pos c5] at hk; omega
  rw [if_neg c5] at hk
  rw [if_neg (by omega), if_neg c3, if_neg, if_neg]
  · exact hk
  · rintro ⟨a, b⟩
    rw [b_at 3 (by omega)] at b
    exact c5 ⟨a, b⟩
  · rintro ⟨a, b⟩
    rw [b_at 2 (by omega)] at b
    exact c4 ⟨a, b⟩

theorem chunk_bad : Chunk [239, 191, 189] := chunk_seq [239, 191, 189] (by decide) (by decide)

/-- l is made of whole sequences. -/
def Whole (l : List UInt8) : Prop := ∃ cs : List (List UInt8), l = cs.flatten ∧ ∀ c ∈ cs, Chunk c

theorem whole_nil : Whole [] := ⟨[], rfl, by simp⟩
theorem whole_app {a b : List UInt8} (ha : Whole a) (hb : Whole b) : Whole (a ++ b) := by
  obtain ⟨x, rfl, hx⟩ := ha
  obtain ⟨y, rfl, hy⟩ := hb
  refine ⟨x ++ y, by simp, fun c hc => ?_⟩
  rcases List.mem_append.1 hc with h | h
  · exact hx c h
  · exact hy c h
theorem whole_chunk {c : List UInt8} (h : Chunk c) : Whole c := ⟨[c], by simp, by simpa using h⟩

/-- The scan that zzWellFormed makes. -/
def wfL : Nat → List UInt8 → Bool
  | 0, _ => true
  | f + 1, l => if l = [] then true else if seqAt l 0 = 0 then false else wfL f (l.drop (seqAt l 0))

theorem wfL_whole : ∀ (f : Nat) (cs : List (List UInt8)), (∀ c ∈ cs, Chunk c) → wfL f cs.flatten = true := by
  intro f
  induction f with
  | zero => intro cs _; rfl
  | succ f ih =>
    intro cs h
    cases cs with
    | nil => rfl
    | cons c cs =>
      have hc := h c (List.mem_cons_self ..)
      have e : (c :: cs).flatten = c ++ cs.flatten := rfl
      rw [e]
      unfold wfL
      have hp : 0 < c.length := List.length_pos_iff.2 hc.1
      rw [if_neg (fun e => hc.1 (List.append_eq_nil_iff.1 e).1), hc.2, if_neg (by omega), List.drop_left' rfl]
      exact ih cs (fun x hx => h x (List.mem_cons_of_mem _ hx))

/-! ### The escaped text -/
def spB (r : Int) : Bool := decide (r = 34 ∨ r = 43 ∨ r = 44 ∨ r = 59 ∨ r = 60 ∨ r = 62 ∨ r = 92)
/-- Is the rune r, at i of n bytes, written behind a backslash? -/
def escB (n i : Nat) (r : Int) : Bool := spB r || decide (i = 0 ∧ (r = 32 ∨ r = 35)) || decide (i + 1 = n ∧ r = 32)
def ctlB (r : Int) : Bool := decide (r < 32 ∨ r = 127)
def hexD (k : Int) : UInt8 := (if k < 10 then 48 + k else 87 + k).toNat.toUInt8

def item (n i : Nat) (r : Int) : List UInt8 :=
  if escB n i r = true then 92 :: encodeRune r
  else if ctlB r = true then [92, hexD (r / 16), hexD (r % 16)]
  else encodeRune r

def escR (n : Nat) : Nat → Nat → List UInt8 → List UInt8
  | 0, _, _ => []
  | f + 1, i, l => if l = [] then [] else item n i (decodeL l).1 ++ escR n f (i + (decodeL l).2) (l.drop (decodeL l).2)

def esc (l : List UInt8) : List UInt8 := escR l.length l.length 0 l

theorem encode_ascii (r : Int) (h0 : 0 ≤ r) (h1 : r < 128) : encodeRune r = [r.toNat.toUInt8] := by
  unfold encodeRune; rw [encodeRuneZ_one h0 (by omega)]; rfl

theorem hexD_ascii (k : Int) (h0 : 0 ≤ k) (h1 : k < 16) : (hexD k).toNat < 128 := by
  unfold hexD
  split <;> · simp; omega

/-- The rune at l's front, encoded: l's own bytes, or U+FFFD's; how long it is beside what it takes of l. -/
theorem enc_front (l : List UInt8) (hl : l ≠ []) : Whole (encodeRune (decodeL l).1) ∧ 1 ≤ (decodeL l).2 ∧ (decodeL l).2 ≤ l.length ∧ (decodeL l).2 ≤ (encodeRune (decodeL l).1).length ∧ (encodeRune (decodeL l).1).length ≤ 3 * (decodeL l).2 ∧
    (((decodeL l).1 : Int) < 128 → (decodeL l).2 = 1 ∧ ((decodeL l).1 : Int) = bt l 0) := by
  have hn : 1 ≤ l.length := List.length_pos_iff.2 hl
  have hb := bt_range l 0
  rcases seq_decL l hl with ⟨a, b, c, d⟩ | ⟨a, b, c⟩ | ⟨a, b, c, d⟩
  · rw [c, d, encode_ascii _ hb.1 a]
    exact ⟨whole_chunk (chunk_ascii _ (by simp; omega)), by omega, by omega, by simp, by simp, fun _ => ⟨rfl, rfl⟩⟩
  · rw [c]
    have e : encodeRune ((65533 : Nat) : Int) = [239, 191, 189] := by decide
    simp only [e]
    exact ⟨whole_chunk chunk_bad, by omega, by omega, by simp, by simp, fun h => by omega⟩
  · have hv : ¬ ((decodeL l).1 = 65533 ∧ (decodeL l).2 = 1) := by omega
    rw [encode_decode l hl hv, d]
    have h128 : 128 ≤ (decodeL l).1 := by
      rw [decodeL_N]
      rw [decodeL_N] at d
      have a' : ¬ (l.getD 0 0).toNat < 128 := by unfold bt at a; omega
      rcases decodeN_shape l.length (l.getD 0 0).toNat (l.getD 1 0).toNat (l.getD 2 0).toNat (l.getD 3 0).toNat with ⟨x, _⟩ | ⟨c1, c2, c3, cv, e⟩ | ⟨c1, c2, c3, c4, cv, cs, e⟩ | ⟨c1, c2, c3, c4, c5, cv, cw, e⟩ | e
      · omega
      · rw [e]; exact cv
      · rw [e]; show 128 ≤ _; omega
      · rw [e]; show 128 ≤ _; omega
      · rw [e]; show 128 ≤ 65533; omega
    have hlen : (l.take (seqAt l 0)).length = seqAt l 0 := by rw [List.length_take]; omega
    exact ⟨whole_chunk (chunk_seq l b c), by omega, c, by omega, by omega, fun h => by omega⟩

theorem item_ok (n i : Nat) (l : List UInt8) (hl : l ≠ []) : Whole (item n i (decodeL l).1) ∧ (decodeL l).2 ≤ (item n i (decodeL l).1).length ∧ (item n i (decodeL l).1).length ≤ 3 * (decodeL l).2 := by
  obtain ⟨hw, h1, _, h2, h3, h4⟩ := enc_front l hl
  have hb := bt_range l 0
  have h92 : Whole [(92 : UInt8)] := whole_chunk (chunk_ascii 92 (by decide))
  unfold item
  by_cases c1 : escB n i (decodeL l).1 = true
  · rw [if_pos c1]
    have ha : ((decodeL l).1 : Int) < 128 := by
      unfold escB spB at c1
      simp only [Bool.or_eq_true, decide_eq_true_eq] at c1
      omega
    obtain ⟨h5, h6⟩ := h4 ha
    rw [h5, encode_ascii _ (by omega) ha]
    exact ⟨whole_app h92 (whole_chunk (chunk_ascii _ (by simp; omega))), by simp, by simp⟩
  rw [if_neg c1]
  by_cases c2 : ctlB (decodeL l).1 = true
  · rw [if_pos c2]
    have ha : ((decodeL l).1 : Int) < 128 := by
      unfold ctlB at c2
      simp only [decide_eq_true_eq] at c2
      omega
    obtain ⟨h5, h6⟩ := h4 ha
    rw [h5]
    refine ⟨whole_app h92 (whole_app (whole_chunk (chunk_ascii _ (hexD_ascii _ (by omega) (by omega)))) (whole_chunk (chunk_ascii _ (hexD_ascii _ (by omega) (by omega))))), by simp, by simp⟩
  rw [if_neg c2]
  exact ⟨hw, h2, h3⟩

theorem escR_ok (n : Nat) : ∀ f i l, l.length ≤ f → Whole (escR n f i l) ∧ l.length ≤ (escR n f i l).length ∧ (escR n f i l).length ≤ 3 * l.length := by
  intro f
  induction f with
  | zero =>
    intro i l h
    have : l = [] := List.length_eq_zero_iff.1 (by omega)
    subst this
    exact ⟨whole_nil, by simp, by simp [escR]⟩
  | succ f ih =>
    intro i l h
    unfold escR
    by_cases e : l = []
    · rw [if_pos e, e]; exact ⟨whole_nil, by simp, by simp⟩
    rw [if_neg e]
    obtain ⟨hw, h1, h2, _, _, _⟩ := enc_front l e
    obtain ⟨a, b, c⟩ := item_ok n i l e
    obtain ⟨x, y, z⟩ := ih (i + (decodeL l).2) (l.drop (decodeL l).2) (by rw [List.length_drop]; omega)
    rw [List.length_drop] at y z
    refine ⟨whole_app a x, ?_, ?_⟩
    · rw [List.length_append]; omega
    · rw [List.length_append]; omega

theorem esc_ok (l : List UInt8) : (∀ f, wfL f (esc l) = true) ∧ l.length ≤ (esc l).length ∧ (esc l).length ≤ 3 * l.length := by
  obtain ⟨⟨cs, e, h⟩, b, c⟩ := escR_ok l.length l.length 0 l (Nat.le_refl _)
  refine ⟨fun f => ?_, b, c⟩
  unfold esc
  rw [e]
  exact wfL_whole f cs h

end Go.Proofs.Qxb6601896a
