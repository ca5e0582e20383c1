/- matchByte over a pattern with no bracket and no backslash; what both small laws share. -/
import Derived.Test.Qxb6601775aPart
namespace Go.Proofs.Qxb6601775a
open Go.RowKit Glob

def litTok (s : ByteArray) (p : Nat) : Option (Nat × (Int → Bool)) :=
  if byteAt s p = 63 then some (p + 1, fun _ => true) else some (p + 1, fun c => byteAt s p == c)

set_option maxHeartbeats 400000 in
theorem byte_any (s : ByteArray) (p : Nat) (c : Int) (w : World) (hs : s.size ≤ 1048576) (hp : p < s.size) (h1 : (((s[p]'hp).toNat : Int) == 63) = true) :
    Calls Try.prog 28 #[.string s, .int .i64 p, .int .u8 c] w fun e w' => (∃ n, w' = w.drewN n) ∧ e = .returned (.tuple #[.int .i64 (p + 1), .bool true, .bool true]) := by
  go_enter Try.func28, Try.ntmps28
  go_wp2
  go_ret3
  exact ⟨⟨0, rfl⟩, rfl⟩

set_option maxHeartbeats 400000 in
theorem byte_lit (s : ByteArray) (p : Nat) (c : Int) (w : World) (hs : s.size ≤ 1048576) (hp : p < s.size) (h1 : (((s[p]'hp).toNat : Int) == 63) = false)
    (h2 : (((s[p]'hp).toNat : Int) == 92) = false) (h3 : (((s[p]'hp).toNat : Int) == 91) = false) :
    Calls Try.prog 28 #[.string s, .int .i64 p, .int .u8 c] w fun e w' => (∃ n, w' = w.drewN n) ∧ e = .returned (.tuple #[.int .i64 (p + 1), .bool (((s[p]'hp).toNat : Int) == c), .bool true]) := by
  go_enter Try.func28, Try.ntmps28
  go_wp2
  go_quiet (fail)
  go_wp2
  go_ret3
  exact ⟨⟨_, rfl⟩, rfl⟩

theorem beq_false_of {a b : Int} (h : a ≠ b) : (a == b) = false := by simpa using h

theorem byteOk_lit (s : ByteArray) (hs : s.size ≤ 1048576) (h : ∀ i, i < s.size → byteAt s i ≠ 91 ∧ byteAt s i ≠ 92) : ByteOk s (litTok s) := by
  intro p c w hp hns h0 h255
  unfold litTok
  by_cases h1 : byteAt s p = 63
  · rw [if_pos h1]
    exact byte_any s p c w hs hp (by rw [byteAt_eq, h1]; rfl)
  · rw [if_neg h1]
    have := byte_lit s p c w hs hp (by rw [byteAt_eq]; exact beq_false_of h1) (by rw [byteAt_eq]; exact beq_false_of (h p hp).2) (by rw [byteAt_eq]; exact beq_false_of (h p hp).1)
    rw [byteAt_eq] at this
    exact this

theorem litTok_next (s : ByteArray) : ∀ p q g, p < s.size → litTok s p = some (q, g) → p < q ∧ q ≤ s.size := by
  intro p q g hp h
  unfold litTok at h
  split at h <;> · cases h; omega

/-- ZZmatchPart hands matchPart's answer on. -/
theorem zzpart_any (s t : ByteArray) (tok : Nat → Option (Nat × (Int → Bool))) (w : World) (hs : s.size ≤ 1048576) (ht : t.size ≤ 1048576)
    (hB : ByteOk s tok) (hN : ∀ p q g, p < s.size → tok p = some (q, g) → p < q ∧ q ≤ s.size) :
    Calls Try.prog 17 #[.string s, .string t] w fun e w' => PartPost (thePat s t tok) w e w' := by
  have H := hide (fun W => part_any s t tok W hs ht hB hN)
  clear hB hN
  go_enter Try.func17, Try.ntmps17
  go_wp2_with (go_at_call 24; refine (H.out _).mono ?_; rintro e w' ⟨b, n, rfl, hb, rfl⟩; have HB := hide hb; clear hb)
  go_ret
  exact ⟨b, n, rfl, HB.out, rfl⟩

set_option maxHeartbeats 400000 in
theorem sizes19 (s t : ByteArray) (w : World) (hs : s.size ≤ maxLen) (ht : t.size ≤ maxLen) :
    Calls Try.prog 19 #[.string s, .string t] w fun e w' => e = .returned (.bool (decide (s.size + t.size ≤ 1048576))) ∧ w' = w := by
  unfold maxLen at hs ht
  by_cases h1 : s.size ≤ 1048576
  · by_cases h2 : t.size ≤ 1048576
    · by_cases h3 : s.size + t.size ≤ 1048576
      · have h4 : decide (s.size + t.size ≤ 1048576) = true := by simp; omega
        go_enter Try.func19, Try.ntmps19
        go_wp2
        go_ret
        exact ⟨by rw [h4]; rfl, rfl⟩
      · have h4 : decide (s.size + t.size ≤ 1048576) = false := by simp; omega
        go_enter Try.func19, Try.ntmps19
        go_wp2
        go_ret
        exact ⟨by rw [h4]; rfl, rfl⟩
    · have h4 : decide (s.size + t.size ≤ 1048576) = false := by simp; omega
      go_enter Try.func19, Try.ntmps19
      go_wp2
      go_ret
      exact ⟨by rw [h4]; rfl, rfl⟩
  · have h4 : decide (s.size + t.size ≤ 1048576) = false := by simp; omega
    go_enter Try.func19, Try.ntmps19
    go_wp2
    go_ret
    exact ⟨by rw [h4]; rfl, rfl⟩

theorem sizes20 (s : ByteArray) (w : World) (hs : s.size ≤ maxLen) :
    Calls Try.prog 20 #[.string s] w fun e w' => e = .returned (.bool (decide (s.size ≤ 1048576))) ∧ w' = w := by
  unfold maxLen at hs
  by_cases h1 : s.size ≤ 1048576
  · have h4 : decide (s.size ≤ 1048576) = true := by simpa using h1
    go_enter Try.func20, Try.ntmps20
    go_wp2
    go_ret
    exact ⟨by rw [h4]; rfl, rfl⟩
  · have h4 : decide (s.size ≤ 1048576) = false := by simpa using h1
    go_enter Try.func20, Try.ntmps20
    go_wp2
    go_ret
    exact ⟨by rw [h4]; rfl, rfl⟩

end Go.Proofs.Qxb6601775a
