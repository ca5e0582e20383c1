/- Plain: well-formed sequences by the table, against the model's decoder; chunks; the escaped text. -/
import Derived.Lib.MapLaws
import Derived.Lib.RuneBytes
import Derived.Lib.DecodeN
namespace Go.Proofs.Qxb6601896a
open Go.Lib

/-- The table of leading bytes: how long, and the range of the second byte. -/
def clsB (b : Int) : Nat × Int × Int :=
  if 194 ≤ b ∧ b ≤ 223 then (2, 128, 191)
  else if b = 224 then (3, 160, 191)
  else if (225 ≤ b ∧ b ≤ 236) ∨ b = 238 ∨ b = 239 then (3, 128, 191)
  else if b = 237 then (3, 128, 159)
  else if b = 240 then (4, 144, 191)
  else if 241 ≤ b ∧ b ≤ 243 then (4, 128, 191)
  else if b = 244 then (4, 128, 143)
  else (0, 0, 0)

def seqI (n : Nat) (b0 b1 b2 b3 : Int) : Nat :=
  if b0 < 128 then 1
  else if (clsB b0).1 = 0 then 0
  else if n < (clsB b0).1 then 0
  else if ¬ ((clsB b0).2.1 ≤ b1 ∧ b1 ≤ (clsB b0).2.2) then 0
  else if 3 ≤ (clsB b0).1 ∧ ¬ (128 ≤ b2 ∧ b2 ≤ 191) then 0
  else if 4 ≤ (clsB b0).1 ∧ ¬ (128 ≤ b3 ∧ b3 ≤ 191) then 0
  else (clsB b0).1

/-- Byte k of l as a number (0 beyond the end). -/
def bt (l : List UInt8) (k : Nat) : Int := ((l.getD k 0).toNat : Int)

theorem bt_range (l : List UInt8) (k : Nat) : 0 ≤ bt l k ∧ bt l k ≤ 255 := by
  unfold bt; have := (l.getD k 0).toNat_lt; omega

def seqAt (l : List UInt8) (i : Nat) : Nat := seqI (l.length - i) (bt l i) (bt l (i + 1)) (bt l (i + 2)) (bt l (i + 3))

theorem bt_drop (l : List UInt8) (i k : Nat) : bt (l.drop i) k = bt l (i + k) := by
  unfold bt; rw [getD_dropU]

theorem seqAt_drop (l : List UInt8) (i : Nat) : seqAt l i = seqAt (l.drop i) 0 := by
  unfold seqAt
  simp only [bt_drop, List.length_drop, Nat.add_zero, Nat.zero_add, Nat.sub_zero]

/-- What the table says of a leading byte. -/
theorem clsB_cases (b : Int) : ((194 ≤ b ∧ b ≤ 223) ∧ clsB b = (2, 128, 191)) ∨ (b = 224 ∧ clsB b = (3, 160, 191)) ∨ (((225 ≤ b ∧ b ≤ 236) ∨ b = 238 ∨ b = 239) ∧ clsB b = (3, 128, 191)) ∨
    (b = 237 ∧ clsB b = (3, 128, 159)) ∨ (b = 240 ∧ clsB b = (4, 144, 191)) ∨ ((241 ≤ b ∧ b ≤ 243) ∧ clsB b = (4, 128, 191)) ∨ (b = 244 ∧ clsB b = (4, 128, 143)) ∨
    ((b < 194 ∨ 244 < b) ∧ clsB b = (0, 0, 0)) := by
  unfold clsB
  by_cases h1 : 194 ≤ b ∧ b ≤ 223
  · rw [if_pos h1]; exact Or.inl ⟨h1, rfl⟩
  rw [if_neg h1]
  by_cases h2 : b = 224
  · rw [if_pos h2]; exact Or.inr (Or.inl ⟨h2, rfl⟩)
  rw [if_neg h2]
  by_cases h3 : (225 ≤ b ∧ b ≤ 236) ∨ b = 238 ∨ b = 239
  · rw [if_pos h3]; exact Or.inr (Or.inr (Or.inl ⟨h3, rfl⟩))
  rw [if_neg h3]
  by_cases h4 : b = 237
  · rw [if_pos h4]; exact Or.inr (Or.inr (Or.inr (Or.inl ⟨h4, rfl⟩)))
  rw [if_neg h4]
  by_cases h5 : b = 240
  · rw [if_pos h5]; exact Or.inr (Or.inr (Or.inr (Or.inr (Or.inl ⟨h5, rfl⟩))))
  rw [if_neg h5]
  by_cases h6 : 241 ≤ b ∧ b ≤ 243
  · rw [if_pos h6]; exact Or.inr (Or.inr (Or.inr (Or.inr (Or.inr (Or.inl ⟨h6, rfl⟩)))))
  rw [if_neg h6]
  by_cases h7 : b = 244
  · rw [if_pos h7]; exact Or.inr (Or.inr (Or.inr (Or.inr (Or.inr (Or.inr (Or.inl ⟨h7, rfl⟩))))))
  rw [if_neg h7]
  exact Or.inr (Or.inr (Or.inr (Or.inr (Or.inr (Or.inr (Or.inr ⟨by omega, rfl⟩))))))

/-- The table's road of the library's decoder, by its outcome. -/
theorem slow_seq (n b0 b1 b2 b3 k lo hi : Nat) (hk : 2 ≤ k ∧ k ≤ 4) (h128 : 128 ≤ b0) (hcls : clsB (b0 : Int) = (k, (lo : Int), (hi : Int))) (hd : slowN n b0 b1 b2 b3 k lo hi = decodeN n b0 b1 b2 b3) :
    (seqI n b0 b1 b2 b3 = 0 ∧ decodeN n b0 b1 b2 b3 = (65533, 1)) ∨ (seqI n b0 b1 b2 b3 = k ∧ k ≤ n ∧ (decodeN n b0 b1 b2 b3).2 = k) := by
  rw [← hd]
  unfold seqI slowN
  rw [hcls]
  simp only
  rw [if_neg (by omega), if_neg (by omega)]
  by_cases c1 : n < k
  · rw [if_pos c1, if_pos c1]; exact Or.inl ⟨rfl, rfl⟩
  rw [if_neg c1, if_neg c1]
  by_cases c2 : b1 < lo ∨ hi < b1
  · rw [if_pos (by omega), if_pos c2]; exact Or.inl ⟨rfl, rfl⟩
  rw [if_neg (by omega), if_neg c2]
  by_cases k2 : k ≤ 2
  · rw [if_pos k2, if_neg (by omega), if_neg (by omega)]; exact Or.inr ⟨rfl, by omega, by show 2 = k; omega⟩
  rw [if_neg k2]
  by_cases c3 : b2 < 128 ∨ 191 < b2
  · rw [if_pos (by omega), if_pos c3]; exact Or.inl ⟨rfl, rfl⟩
  rw [if_neg (by omega), if_neg c3]
  by_cases k3 : k ≤ 3
  · rw [if_pos k3, if_neg (by omega)]; exact Or.inr ⟨rfl, by omega, by show 3 = k; omega⟩
  rw [if_neg k3]
  by_cases c4 : b3 < 128 ∨ 191 < b3
  · rw [if_pos (by omega), if_pos c4]; exact Or.inl ⟨rfl, rfl⟩
  rw [if_neg (by omega), if_neg c4]
  exact Or.inr ⟨rfl, by omega, by show 4 = k; omega⟩

/-- THE TABLE AGAINST THE DECODER. -/
theorem seq_dec (n b0 b1 b2 b3 : Nat) (hn : 1 ≤ n) (h0 : b0 < 256) (h1 : b1 < 256) (h2 : b2 < 256) (h3 : b3 < 256) :
    (b0 < 128 ∧ seqI n b0 b1 b2 b3 = 1 ∧ decodeN n b0 b1 b2 b3 = (b0, 1)) ∨
    (128 ≤ b0 ∧ seqI n b0 b1 b2 b3 = 0 ∧ decodeN n b0 b1 b2 b3 = (65533, 1)) ∨
    (128 ≤ b0 ∧ 2 ≤ seqI n b0 b1 b2 b3 ∧ seqI n b0 b1 b2 b3 ≤ n ∧ (decodeN n b0 b1 b2 b3).2 = seqI n b0 b1 b2 b3) := by
  by_cases c : b0 < 128
  · refine Or.inl ⟨c, ?_, decodeN_ascii n b0 b1 b2 b3 c⟩
    unfold seqI; rw [if_pos (by omega)]
  have c' : 128 ≤ b0 := by omega
  refine Or.inr ?_
  have go : ∀ k lo hi : Nat, 2 ≤ k ∧ k ≤ 4 → clsB (b0 : Int) = (k, (lo : Int), (hi : Int)) → slowN n b0 b1 b2 b3 k lo hi = decodeN n b0 b1 b2 b3 →
      (128 ≤ b0 ∧ seqI n b0 b1 b2 b3 = 0 ∧ decodeN n b0 b1 b2 b3 = (65533, 1)) ∨ (128 ≤ b0 ∧ 2 ≤ seqI n b0 b1 b2 b3 ∧ seqI n b0 b1 b2 b3 ≤ n ∧ (decodeN n b0 b1 b2 b3).2 = seqI n b0 b1 b2 b3) := by
    intro k lo hi hk hc hd
    rcases slow_seq n b0 b1 b2 b3 k lo hi hk c' hc hd with ⟨a, b⟩ | ⟨a, b, d⟩
    · exact Or.inl ⟨c', a, b⟩
    · exact Or.inr ⟨c', by omega, by omega, by omega⟩
  rcases clsB_cases (b0 : Int) with ⟨h, e⟩ | ⟨h, e⟩ | ⟨h, e⟩ | ⟨h, e⟩ | ⟨h, e⟩ | ⟨h, e⟩ | ⟨h, e⟩ | ⟨h, e⟩
  · exact go 2 128 191 (by omega) e (slow_C2 n b0 b1 b2 b3 hn h1 h2 h3 (by omega))
  · exact go 3 160 191 (by omega) e (slow_E0 n b0 b1 b2 b3 hn h1 h2 h3 (by omega))
  · exact go 3 128 191 (by omega) e (slow_E1 n b0 b1 b2 b3 hn h1 h2 h3 (by omega))
  · exact go 3 128 159 (by omega) e (slow_ED n b0 b1 b2 b3 hn h1 h2 h3 (by omega))
  · exact go 4 144 191 (by omega) e (slow_F0 n b0 b1 b2 b3 hn h1 h2 h3 (by omega))
  · exact go 4 128 191 (by omega) e (slow_F1 n b0 b1 b2 b3 hn h1 h2 h3 (by omega))
  · exact go 4 128 143 (by omega) e (slow_F4 n b0 b1 b2 b3 hn h1 h2 h3 (by omega))
  · refine Or.inl ⟨c', ?_, ?_⟩
    · unfold seqI; rw [e, if_neg (by omega), if_pos rfl]
    · rcases decodeN_shape n b0 b1 b2 b3 with ⟨c, _⟩ | ⟨c1, c2, c3, cv, _⟩ | ⟨c1, c2, c3, c4, cv, cs, _⟩ | ⟨c1, c2, c3, c4, c5, cv, cw, _⟩ | e
      · omega
      · exfalso; omega
      · exfalso; omega
      · exfalso; omega
      · exact e

/-- THE SAME OF A LIST's FRONT. -/
theorem seq_decL (l : List UInt8) (hl : l ≠ []) :
    (bt l 0 < 128 ∧ seqAt l 0 = 1 ∧ ((decodeL l).1 : Int) = bt l 0 ∧ (decodeL l).2 = 1) ∨
    (128 ≤ bt l 0 ∧ seqAt l 0 = 0 ∧ decodeL l = (65533, 1)) ∨
    (128 ≤ bt l 0 ∧ 2 ≤ seqAt l 0 ∧ seqAt l 0 ≤ l.length ∧ (decodeL l).2 = seqAt l 0) := by
  have hn : 1 ≤ l.length := List.length_pos_iff.2 hl
  rw [decodeL_N]
  unfold seqAt bt
  rw [Nat.sub_zero]
  rcases seq_dec l.length (l.getD 0 0).toNat (l.getD 1 0).toNat (l.getD 2 0).toNat (l.getD 3 0).toNat hn (l.getD 0 0).toNat_lt (l.getD 1 0).toNat_lt (l.getD 2 0).toNat_lt (l.getD 3 0).toNat_lt with ⟨a, b, c⟩ | ⟨a, b, c⟩ | ⟨a, b, c, d⟩
  · exact Or.inl ⟨by omega, b, by rw [c], by rw [c]⟩
  · exact Or.inr (Or.inl ⟨by omega, b, c⟩)
  · exact Or.inr (Or.inr ⟨by omega, b, c, d⟩)

end Go.Proofs.Qxb6601896a
