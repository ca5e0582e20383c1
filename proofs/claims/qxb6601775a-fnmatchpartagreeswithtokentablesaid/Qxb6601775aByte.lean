/- matchByte at every token. -/
import Derived.Test.Qxb6601775aBrkWalk
import Derived.Test.Qxb6601775aLit
namespace Go.Proofs.Qxb6601775a
open Go.RowKit Glob

theorem bracket_any (s : ByteArray) (p : Nat) (c : Int) (w : World) (hs : s.size ≤ 1048576) (hp : p ≤ s.size) (h0 : 0 ≤ c) (h255 : c ≤ 255) :
    Calls Try.prog 23 #[.string s, .int .i64 p, .int .u8 c] w fun e w' => w' = w ∧ e = .returned (ans (bracket s p) c) := by
  refine bracket_core s p c w hs hp h0 h255 (negAt s p) (if negAt s p then p + 1 else p) ?_ (bracket s p) (hide rfl) (hide rfl) (hide rfl)
  cases h : negAt s p
  · simpa using hp
  · have : p < s.size := by
      unfold negAt at h
      exact (of_decide_eq_true h).1
    simp only [if_true]
    omega

set_option maxHeartbeats 400000 in
theorem byte_esc_end (s : ByteArray) (p : Nat) (c : Int) (w : World) (hs : s.size ≤ 1048576) (hp : p < s.size) (h1 : (((s[p]'hp).toNat : Int) == 63) = false)
    (h2 : (((s[p]'hp).toNat : Int) == 92) = true) (h3 : ((p : Int) + 1 == (s.size : Int)) = true) :
    Calls Try.prog 28 #[.string s, .int .i64 p, .int .u8 c] w fun e w' => (∃ n, w' = w.drewN n) ∧ e = .returned (.tuple #[.int .i64 0, .bool false, .bool false]) := by
  go_enter Try.func28, Try.ntmps28
  go_wp2
  go_ret3
  exact ⟨⟨0, rfl⟩, rfl⟩

set_option maxHeartbeats 400000 in
theorem byte_esc (s : ByteArray) (p : Nat) (c : Int) (w : World) (hs : s.size ≤ 1048576) (hp : p < s.size) (hp1 : p + 1 < s.size) (h1 : (((s[p]'hp).toNat : Int) == 63) = false)
    (h2 : (((s[p]'hp).toNat : Int) == 92) = true) (h3 : ((p : Int) + 1 == (s.size : Int)) = false) :
    Calls Try.prog 28 #[.string s, .int .i64 p, .int .u8 c] w fun e w' => (∃ n, w' = w.drewN n) ∧ e = .returned (.tuple #[.int .i64 (p + 2), .bool (((s[p + 1]'hp1).toNat : Int) == c), .bool true]) := by
  have e1 : IntKind.i64.wrap ((p : Int) + 1) = (p : Int) + 1 := by rw [IntKind.wrap_i64]; omega
  have e2 : IntKind.i64.wrap ((p : Int) + 2) = (p : Int) + 2 := by rw [IntKind.wrap_i64]; omega
  have e3 : (0 : Int) ≤ (p : Int) + 1 ∧ (p : Int) + 1 < (s.size : Int) := by omega
  have e4 : ((p : Int) + 1).toNat = p + 1 := by omega
  go_enter Try.func28, Try.ntmps28
  go_wp2
  go_quiet (fail)
  go_wp2
  go_ret3
  exact ⟨⟨_, rfl⟩, rfl⟩

set_option maxHeartbeats 400000 in
theorem byte_brk (s : ByteArray) (p : Nat) (c : Int) (w : World) (hs : s.size ≤ 1048576) (hp : p < s.size) (h0 : 0 ≤ c) (h255 : c ≤ 255) (h1 : (((s[p]'hp).toNat : Int) == 63) = false)
    (h2 : (((s[p]'hp).toNat : Int) == 92) = false) (h3 : (((s[p]'hp).toNat : Int) == 91) = true) :
    Calls Try.prog 28 #[.string s, .int .i64 p, .int .u8 c] w fun e w' => (∃ n, w' = w.drewN n) ∧ e = .returned (ans (bracket s (p + 1)) c) := by
  have HB := hide (fun W => bracket_any s (p + 1) c W hs (by omega) h0 h255)
  rw [show ((p + 1 : Nat) : Int) = (p : Int) + 1 by omega] at HB
  cases ho : bracket s (p + 1) with
  | none =>
    rw [ho] at HB
    simp only [ans] at HB ⊢
    clear ho
    go_enter Try.func28, Try.ntmps28
    go_wp2_with (go_at_call 23; refine (HB.out _).mono ?_; rintro e w' ⟨hw, rfl⟩; have hw2 := hw.symm; subst hw2; clear hw)
    go_ret3
    exact ⟨⟨0, rfl⟩, rfl⟩
  | some qg =>
    obtain ⟨q, g⟩ := qg
    rw [ho] at HB
    simp only [ans] at HB ⊢
    clear ho
    go_enter Try.func28, Try.ntmps28
    go_wp2_with (go_at_call 23; refine (HB.out _).mono ?_; rintro e w' ⟨hw, rfl⟩; have hw2 := hw.symm; subst hw2; clear hw)
    go_ret3
    exact ⟨⟨0, rfl⟩, rfl⟩

theorem byteOk_full (s : ByteArray) (hs : s.size ≤ 1048576) : ByteOk s (fullTok s) := by
  intro p c w hp hns h0 h255
  unfold fullTok
  by_cases h1 : byteAt s p = 63
  · rw [if_pos h1]
    exact byte_any s p c w hs hp (by rw [byteAt_eq, h1]; rfl)
  · rw [if_neg h1]
    have b1 : (((s[p]'hp).toNat : Int) == 63) = false := by rw [byteAt_eq]; exact beq_false_of h1
    by_cases h2 : byteAt s p = 92
    · rw [if_pos h2]
      have b2 : (((s[p]'hp).toNat : Int) == 92) = true := by rw [byteAt_eq, h2]; rfl
      by_cases h3 : p + 1 = s.size
      · rw [if_pos h3]
        exact byte_esc_end s p c w hs hp b1 b2 (by simp; omega)
      · rw [if_neg h3]
        have := byte_esc s p c w hs hp (by omega) b1 b2 (by simp; omega)
        rw [byteAt_eq] at this
        exact this
    · rw [if_neg h2]
      have b2 : (((s[p]'hp).toNat : Int) == 92) = false := by rw [byteAt_eq]; exact beq_false_of h2
      by_cases h3 : byteAt s p = 91
      · rw [if_pos h3]
        exact byte_brk s p c w hs hp h0 h255 b1 b2 (by rw [byteAt_eq, h3]; rfl)
      · rw [if_neg h3]
        have := byte_lit s p c w hs hp b1 b2 (by rw [byteAt_eq]; exact beq_false_of h3)
        rw [byteAt_eq] at this
        exact this
end Go.Proofs.Qxb6601775a
