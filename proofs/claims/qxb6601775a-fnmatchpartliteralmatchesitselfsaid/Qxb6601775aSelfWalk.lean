/- The walk of FnMatchPartLiteralMatchesItself. -/
import Derived.Test.Qxb6601775aLit
namespace Go.Proofs.Qxb6601775a
open Go.RowKit Glob

/-- A text without bracket and backslash takes itself. -/
theorem self_answer (s : ByteArray) (b : Bool) (hb : b = true ↔ RR (thePat s s (litTok s)) 0 0) : b = true := by
  rw [hb]
  refine self_taken (thePat s s (litTok s)) rfl (fun i hi hs => ?_) s.size 0 (Nat.zero_add _)
  show ∃ g, litTok s i = some (i + 1, g) ∧ g (byteAt s i) = true
  unfold litTok
  by_cases h : byteAt s i = 63
  · exact ⟨_, if_pos h, rfl⟩
  · exact ⟨_, if_neg h, by simp⟩

set_option maxHeartbeats 1000000 in
theorem self_walk (s : ByteArray) (w0 : s.size ≤ maxLen) (w : World) :
    Calls Try.prog 9 #[.string s] w fun e w' => e = .returned (.bool true) ∧ ∃ n, w' = w.drewN n := by
  by_cases hsum : s.size ≤ 1048576
  · have hd : decide (s.size ≤ 1048576) = true := by simpa using hsum
    have HZ := hide (fun W => sizes20 s W w0)
    rw [hd] at HZ
    clear hd w0
    by_cases hs : s.size ≤ 4096
    · have c1 : decide ((4096 : Int) < (s.size : Int)) = false := by simp; omega
      go_enter Try.func9, Try.ntmps9
      go_wp2_with (go_at_call 20; refine (HZ.out _).mono ?_; rintro e w' ⟨rfl, hw⟩; have hw2 := hw.symm; subst hw2; clear hw)
      go_loop [3] (fun vi => ∃ k : Nat, vi = .int .i64 k ∧ k ≤ s.size ∧ Hid (∀ i, i < k → byteAt s i ≠ 91 ∧ byteAt s i ≠ 92)) (fun vi => s.size - (intOf vi).toNat)
      case atStart => exact ⟨0, rfl, Nat.zero_le _, fun i h => by omega⟩
      case round =>
        obtain ⟨k, rfl, hk, hall⟩ := hrel
        by_cases hlt : k < s.size
        · by_cases h91 : byteAt s k = 91
          · have b1 : (((s[k]'hlt).toNat : Int) == 91) = true := by rw [byteAt_eq, h91]; rfl
            clear h91
            go_wp2
            go_ret
            exact ⟨rfl, 0, rfl⟩
          · have b1 : (((s[k]'hlt).toNat : Int) == 91) = false := by rw [byteAt_eq]; exact beq_false_of h91
            have H91 := hide h91
            clear h91
            by_cases h92 : byteAt s k = 92
            · have b2 : (((s[k]'hlt).toNat : Int) == 92) = true := by rw [byteAt_eq, h92]; rfl
              clear h92
              go_wp2
              go_ret
              exact ⟨rfl, 0, rfl⟩
            · have b2 : (((s[k]'hlt).toNat : Int) == 92) = false := by rw [byteAt_eq]; exact beq_false_of h92
              have H92 := hide h92
              clear h92
              go_wp2
              go_round
              case rel =>
                refine ⟨k + 1, by go_num, by omega, fun i hi => ?_⟩
                by_cases e : i = k
                · subst e; exact ⟨H91.out, H92.out⟩
                · exact hall.out i (by omega)
              case measure => simp [intOf]; omega
        · have hke : k = s.size := by omega
          have H := hide (fun W => zzpart_any s s (litTok s) W (by omega) (by omega) (byteOk_lit s (by omega) (fun i hi => hall.out i (by omega))) (litTok_next s))
          clear hke
          go_wp2_with (go_at_call 17; refine (H.out _).mono ?_; rintro e w' ⟨b, n, rfl, hb, rfl⟩; have hb2 := self_answer s b hb; subst hb2; clear hb)
          go_ret
          exact ⟨rfl, _, rfl⟩
    · have c1 : decide ((4096 : Int) < (s.size : Int)) = true := by simp; omega
      go_enter Try.func9, Try.ntmps9
      go_wp2_with (go_at_call 20; refine (HZ.out _).mono ?_; rintro e w' ⟨rfl, hw⟩; have hw2 := hw.symm; subst hw2; clear hw)
      go_ret
      exact ⟨rfl, 0, rfl⟩
  · have hd : decide (s.size ≤ 1048576) = false := by simpa using hsum
    have HZ := hide (fun W => sizes20 s W w0)
    rw [hd] at HZ
    clear hd hsum
    go_enter Try.func9, Try.ntmps9
    go_wp2_with (go_at_call 20; refine (HZ.out _).mono ?_; rintro e w' ⟨rfl, hw⟩; have hw2 := hw.symm; subst hw2; clear hw)
    go_ret
    exact ⟨rfl, 0, rfl⟩
end Go.Proofs.Qxb6601775a
