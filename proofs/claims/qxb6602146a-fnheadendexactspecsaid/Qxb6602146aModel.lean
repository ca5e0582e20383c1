/- The model's two searches. -/
import Derived.Test.Qxb6602146aHead
namespace Go.Proofs.Qxb6602146a
open Go.RowKit
set_option linter.unusedVariables false

theorem gi0 (z : Nat → Int) (p : Nat) : Gi z (p : Int) = G z p := rfl
theorem gi1 (z : Nat → Int) (p : Nat) : Gi z ((p : Int) + 1) = G z (p + 1) := rfl
theorem gi2 (z : Nat → Int) (p : Nat) : Gi z ((p : Int) + 2) = G z (p + 2) := rfl
theorem gi3 (z : Nat → Int) (p : Nat) : Gi z ((p : Int) + 3) = G z (p + 3) := rfl
theorem gim (z : Nat → Int) (k : Nat) (h : 2 ≤ k) : Gi z ((k : Int) - 1) = G z (k - 2 + 1) := by
  unfold Gi
  rw [show ((k : Int) - 1).toNat = k - 2 + 1 from by omega]
theorem gik (z : Nat → Int) (k : Nat) (h : 2 ≤ k) : Gi z (k : Int) = G z (k - 2 + 2) := by
  unfold Gi
  rw [show (k : Int).toNat = k - 2 + 2 from by omega]

theorem four {z : Nat → Int} {p : Nat} (h : ¬ isBlank z p) :
    (Gi z (p : Int) == 13) = false ∨
    ((Gi z (p : Int) == 13) = true ∧ (Gi z ((p : Int) + 1) == 10) = false) ∨
    ((Gi z (p : Int) == 13) = true ∧ (Gi z ((p : Int) + 1) == 10) = true ∧ (Gi z ((p : Int) + 2) == 13) = false) ∨
    ((Gi z (p : Int) == 13) = true ∧ (Gi z ((p : Int) + 1) == 10) = true ∧ (Gi z ((p : Int) + 2) == 13) = true ∧ (Gi z ((p : Int) + 3) == 10) = false) := by
  rw [gi0, gi1, gi2, gi3]
  unfold isBlank at h
  simp only [beq_iff_eq, beq_eq_false_iff_ne]
  by_cases h1 : G z p = 13
  · by_cases h2 : G z (p + 1) = 10
    · by_cases h3 : G z (p + 2) = 13
      · exact Or.inr (Or.inr (Or.inr ⟨h1, h2, h3, fun h4 => h ⟨h1, h2, h3, h4⟩⟩))
      · exact Or.inr (Or.inr (Or.inl ⟨h1, h2, h3⟩))
    · exact Or.inr (Or.inl ⟨h1, h2⟩)
  · exact Or.inl h1

theorem two {z : Nat → Int} {k : Nat} (hk : 2 ≤ k) (h : ¬ isBare z (k - 2)) :
    (Gi z (k : Int) == 10) = false ∨ ((Gi z (k : Int) == 10) = true ∧ (Gi z ((k : Int) - 1) != 13) = false) := by
  rw [gik z k hk, gim z k hk]
  unfold isBare at h
  by_cases h1 : G z (k - 2 + 2) = 10
  · refine Or.inr ⟨by simp [h1], ?_⟩
    by_cases h2 : G z (k - 2 + 1) = 13
    · simp [h2]
    · exact absurd ⟨h1, h2⟩ h
  · exact Or.inl (by simp [h1])

set_option maxHeartbeats 2000000 in
theorem model_NN (a : Option Addr) (n : Nat) (z : Nat → Int) (w : World) (hn : n ≤ 1048576) (hr : Row w a n z) (hB : ∀ p, p < n - 1 → ¬ isBlank z p) (hR : ∀ k, k < n → ¬ isBare z k) :
    Calls Try.prog 9 #[.slice a n n] w fun e w' => HeadPost z n w e w' := by
  have HF : Hid (∀ x : Int, 0 ≤ x → x < (n : Int) + 2 → Calls Try.prog 19 #[.slice a n n, .int .i64 x] w fun e w' => e = .returned (.int .u8 (Gi z x)) ∧ w' = w) := fun x h0 h1 => framed a n z w x hn hr h0 h1
  have HA : Hid (Ans z n 0 true) := Or.inr (Or.inr ⟨hR, fun p hp => hB p (by omega), rfl, rfl⟩)
  replace hB := hide hB
  have HB := hB
  replace hR := hide hR
  have HR := hR
  clear hB hR hr
  go_enter Try.func9, Try.ntmps9
  go_wp2
  go_loop [5, 6] (fun vb vp => vb = .int .i64 (-1) ∧ ∃ p : Nat, vp = .int .i64 p ∧ p ≤ n) (fun _ vp => n + 2 - (intOf vp).toNat)
  case atStart => exact ⟨rfl, 0, rfl, Nat.zero_le _⟩
  case round =>
    obtain ⟨rfl, p, rfl, hp⟩ := hrel
    by_cases hlt : p + 1 < n
    · rcases four (HB.out p (by omega)) with g1 | ⟨g1, g2⟩ | ⟨g1, g2, g3⟩ | ⟨g1, g2, g3, g4⟩ <;>
        (go_wp2_with (go_at_call 19; refine (HF.out _ (by omega) (by omega)).mono ?_; rintro e w' ⟨rfl, hw⟩; have hw2 := hw.symm; subst hw2; clear hw)
         go_round
         case rel => exact ⟨rfl, p + 1, by go_num, by omega⟩
         case measure => simp [intOf]; omega)
    · go_wp2
      go_loop [7, 8] (fun vb vk => vb = .int .i64 (-1) ∧ ∃ k : Nat, vk = .int .i64 k ∧ 2 ≤ k ∧ k ≤ n + 2) (fun _ vk => n + 2 - (intOf vk).toNat)
      case atStart => exact ⟨rfl, 2, rfl, by omega, by omega⟩
      case round =>
        obtain ⟨rfl, k, rfl, hk, hkn⟩ := hrel
        by_cases hlt2 : k < n + 2
        · rcases two hk (HR.out (k - 2) (by omega)) with k1 | ⟨k1, k2⟩ <;>
            (go_wp2_with (go_at_call 19; refine (HF.out _ (by omega) (by omega)).mono ?_; rintro e w' ⟨rfl, hw⟩; have hw2 := hw.symm; subst hw2; clear hw)
             go_round
             case rel => exact ⟨rfl, k + 1, by go_num, by omega, by omega⟩
             case measure => simp [intOf]; omega)
        · go_wp2_with (go_at_call 19; refine (HF.out _ (by omega) (by omega)).mono ?_; rintro e w' ⟨rfl, hw⟩; have hw2 := hw.symm; subst hw2; clear hw)
          go_ret2
          exact ⟨_, _, rfl, HA.out, rfl⟩

set_option maxHeartbeats 2000000 in
theorem model_SN (a : Option Addr) (n : Nat) (z : Nat → Int) (w : World) (hn : n ≤ 1048576) (hr : Row w a n z) (p0 : Nat) (hp0 : p0 < n - 1) (hb0 : isBlank z p0) (hB : ∀ q, q < p0 → ¬ isBlank z q) (hR : ∀ k, k < n → ¬ isBare z k) :
    Calls Try.prog 9 #[.slice a n n] w fun e w' => HeadPost z n w e w' := by
  have HF : Hid (∀ x : Int, 0 ≤ x → x < (n : Int) + 2 → Calls Try.prog 19 #[.slice a n n, .int .i64 x] w fun e w' => e = .returned (.int .u8 (Gi z x)) ∧ w' = w) := fun x h0 h1 => framed a n z w x hn hr h0 h1
  have HA : Hid (Ans z n ((p0 : Int) + 2) true) := Or.inr (Or.inl ⟨p0, by omega, hb0, fun k hk => hR k (by omega), hB, rfl, rfl⟩)
  replace hB := hide hB
  have HB := hB
  replace hR := hide hR
  have HR := hR
  replace hb0 := hide hb0
  clear hB hR hr
  go_enter Try.func9, Try.ntmps9
  go_wp2
  go_loop [5, 6] (fun vb vp => vb = .int .i64 (-1) ∧ ∃ p : Nat, vp = .int .i64 p ∧ p ≤ p0) (fun _ vp => n + 2 - (intOf vp).toNat)
  case atStart => exact ⟨rfl, 0, rfl, Nat.zero_le _⟩
  case round =>
    obtain ⟨rfl, p, rfl, hp⟩ := hrel
    by_cases hlt : p < p0
    · rcases four (HB.out p hlt) with g1 | ⟨g1, g2⟩ | ⟨g1, g2, g3⟩ | ⟨g1, g2, g3, g4⟩ <;>
        (go_wp2_with (go_at_call 19; refine (HF.out _ (by omega) (by omega)).mono ?_; rintro e w' ⟨rfl, hw⟩; have hw2 := hw.symm; subst hw2; clear hw)
         go_round
         case rel => exact ⟨rfl, p + 1, by go_num, by omega⟩
         case measure => simp [intOf]; omega)
    · obtain rfl : p = p0 := by omega
      have g1 : (Gi z (p : Int) == 13) = true := by rw [gi0]; simpa using hb0.out.1
      have g2 : (Gi z ((p : Int) + 1) == 10) = true := by rw [gi1]; simpa using hb0.out.2.1
      have g3 : (Gi z ((p : Int) + 2) == 13) = true := by rw [gi2]; simpa using hb0.out.2.2.1
      have g4 : (Gi z ((p : Int) + 3) == 10) = true := by rw [gi3]; simpa using hb0.out.2.2.2
      go_wp2_with (go_at_call 19; refine (HF.out _ (by omega) (by omega)).mono ?_; rintro e w' ⟨rfl, hw⟩; have hw2 := hw.symm; subst hw2; clear hw)
      go_loop [7, 8] (fun vb vk => vb = .int .i64 (-1) ∧ ∃ k : Nat, vk = .int .i64 k ∧ 2 ≤ k ∧ k ≤ n + 2) (fun _ vk => n + 2 - (intOf vk).toNat)
      case atStart => exact ⟨rfl, 2, rfl, by omega, by omega⟩
      case round =>
        obtain ⟨rfl, k, rfl, hk, hkn⟩ := hrel
        by_cases hlt2 : k < n + 2
        · rcases two hk (HR.out (k - 2) (by omega)) with k1 | ⟨k1, k2⟩ <;>
            (go_wp2_with (go_at_call 19; refine (HF.out _ (by omega) (by omega)).mono ?_; rintro e w' ⟨rfl, hw⟩; have hw2 := hw.symm; subst hw2; clear hw)
             go_round
             case rel => exact ⟨rfl, k + 1, by go_num, by omega, by omega⟩
             case measure => simp [intOf]; omega)
        · go_wp2_with (go_at_call 19; refine (HF.out _ (by omega) (by omega)).mono ?_; rintro e w' ⟨rfl, hw⟩; have hw2 := hw.symm; subst hw2; clear hw)
          go_ret2
          exact ⟨_, _, rfl, HA.out, rfl⟩

set_option maxHeartbeats 2000000 in
theorem model_NS (a : Option Addr) (n : Nat) (z : Nat → Int) (w : World) (hn : n ≤ 1048576) (hr : Row w a n z) (hB : ∀ p, p < n - 1 → ¬ isBlank z p) (k0 : Nat) (hk0 : k0 < n) (hb1 : isBare z k0) (hR : ∀ q, q < k0 → ¬ isBare z q) :
    Calls Try.prog 9 #[.slice a n n] w fun e w' => HeadPost z n w e w' := by
  have HF : Hid (∀ x : Int, 0 ≤ x → x < (n : Int) + 2 → Calls Try.prog 19 #[.slice a n n, .int .i64 x] w fun e w' => e = .returned (.int .u8 (Gi z x)) ∧ w' = w) := fun x h0 h1 => framed a n z w x hn hr h0 h1
  have HA : Hid (Ans z n 0 false) := Or.inl ⟨⟨k0, hk0, hb1, fun p hp => hB p (by omega)⟩, rfl, rfl⟩
  replace hB := hide hB
  have HB := hB
  replace hR := hide hR
  have HR := hR
  replace hb1 := hide hb1
  clear hB hR hr
  go_enter Try.func9, Try.ntmps9
  go_wp2
  go_loop [5, 6] (fun vb vp => vb = .int .i64 (-1) ∧ ∃ p : Nat, vp = .int .i64 p ∧ p ≤ n) (fun _ vp => n + 2 - (intOf vp).toNat)
  case atStart => exact ⟨rfl, 0, rfl, Nat.zero_le _⟩
  case round =>
    obtain ⟨rfl, p, rfl, hp⟩ := hrel
    by_cases hlt : p + 1 < n
    · rcases four (HB.out p (by omega)) with g1 | ⟨g1, g2⟩ | ⟨g1, g2, g3⟩ | ⟨g1, g2, g3, g4⟩ <;>
        (go_wp2_with (go_at_call 19; refine (HF.out _ (by omega) (by omega)).mono ?_; rintro e w' ⟨rfl, hw⟩; have hw2 := hw.symm; subst hw2; clear hw)
         go_round
         case rel => exact ⟨rfl, p + 1, by go_num, by omega⟩
         case measure => simp [intOf]; omega)
    · go_wp2
      go_loop [7, 8] (fun vb vk => vb = .int .i64 (-1) ∧ ∃ k : Nat, vk = .int .i64 k ∧ 2 ≤ k ∧ k ≤ k0 + 2) (fun _ vk => n + 2 - (intOf vk).toNat)
      case atStart => exact ⟨rfl, 2, rfl, by omega, by omega⟩
      case round =>
        obtain ⟨rfl, k, rfl, hk, hkn⟩ := hrel
        by_cases hlt2 : k < k0 + 2
        · rcases two hk (HR.out (k - 2) (by omega)) with k1 | ⟨k1, k2⟩ <;>
            (go_wp2_with (go_at_call 19; refine (HF.out _ (by omega) (by omega)).mono ?_; rintro e w' ⟨rfl, hw⟩; have hw2 := hw.symm; subst hw2; clear hw)
             go_round
             case rel => exact ⟨rfl, k + 1, by go_num, by omega, by omega⟩
             case measure => simp [intOf]; omega)
        · have he : k = k0 + 2 := by omega
          have k1 : (Gi z (k : Int) == 10) = true := by rw [gik z _ hk, he]; simpa using hb1.out.1
          have k2 : (Gi z ((k : Int) - 1) != 13) = true := by rw [gim z _ hk, he]; simpa using hb1.out.2
          clear he
          go_wp2_with (go_at_call 19; refine (HF.out _ (by omega) (by omega)).mono ?_; rintro e w' ⟨rfl, hw⟩; have hw2 := hw.symm; subst hw2; clear hw)
          go_ret2
          exact ⟨_, _, rfl, HA.out, rfl⟩

set_option maxHeartbeats 2000000 in
theorem model_SSl (a : Option Addr) (n : Nat) (z : Nat → Int) (w : World) (hn : n ≤ 1048576) (hr : Row w a n z) (p0 : Nat) (hp0 : p0 < n - 1) (hb0 : isBlank z p0) (hB : ∀ q, q < p0 → ¬ isBlank z q) (k0 : Nat) (hk0 : k0 < n) (hb1 : isBare z k0) (hR : ∀ q, q < k0 → ¬ isBare z q) (ho : k0 < p0 + 2) :
    Calls Try.prog 9 #[.slice a n n] w fun e w' => HeadPost z n w e w' := by
  have HF : Hid (∀ x : Int, 0 ≤ x → x < (n : Int) + 2 → Calls Try.prog 19 #[.slice a n n, .int .i64 x] w fun e w' => e = .returned (.int .u8 (Gi z x)) ∧ w' = w) := fun x h0 h1 => framed a n z w x hn hr h0 h1
  have HA : Hid (Ans z n 0 false) := Or.inl ⟨⟨k0, hk0, hb1, fun p hp => hB p (by omega)⟩, rfl, rfl⟩
  replace hB := hide hB
  have HB := hB
  replace hR := hide hR
  have HR := hR
  replace hb0 := hide hb0
  replace hb1 := hide hb1
  clear hB hR hr
  go_enter Try.func9, Try.ntmps9
  go_wp2
  go_loop [5, 6] (fun vb vp => vb = .int .i64 (-1) ∧ ∃ p : Nat, vp = .int .i64 p ∧ p ≤ p0) (fun _ vp => n + 2 - (intOf vp).toNat)
  case atStart => exact ⟨rfl, 0, rfl, Nat.zero_le _⟩
  case round =>
    obtain ⟨rfl, p, rfl, hp⟩ := hrel
    by_cases hlt : p < p0
    · rcases four (HB.out p hlt) with g1 | ⟨g1, g2⟩ | ⟨g1, g2, g3⟩ | ⟨g1, g2, g3, g4⟩ <;>
        (go_wp2_with (go_at_call 19; refine (HF.out _ (by omega) (by omega)).mono ?_; rintro e w' ⟨rfl, hw⟩; have hw2 := hw.symm; subst hw2; clear hw)
         go_round
         case rel => exact ⟨rfl, p + 1, by go_num, by omega⟩
         case measure => simp [intOf]; omega)
    · obtain rfl : p = p0 := by omega
      have g1 : (Gi z (p : Int) == 13) = true := by rw [gi0]; simpa using hb0.out.1
      have g2 : (Gi z ((p : Int) + 1) == 10) = true := by rw [gi1]; simpa using hb0.out.2.1
      have g3 : (Gi z ((p : Int) + 2) == 13) = true := by rw [gi2]; simpa using hb0.out.2.2.1
      have g4 : (Gi z ((p : Int) + 3) == 10) = true := by rw [gi3]; simpa using hb0.out.2.2.2
      go_wp2_with (go_at_call 19; refine (HF.out _ (by omega) (by omega)).mono ?_; rintro e w' ⟨rfl, hw⟩; have hw2 := hw.symm; subst hw2; clear hw)
      go_loop [7, 8] (fun vb vk => vb = .int .i64 (-1) ∧ ∃ k : Nat, vk = .int .i64 k ∧ 2 ≤ k ∧ k ≤ k0 + 2) (fun _ vk => n + 2 - (intOf vk).toNat)
      case atStart => exact ⟨rfl, 2, rfl, by omega, by omega⟩
      case round =>
        obtain ⟨rfl, k, rfl, hk, hkn⟩ := hrel
        by_cases hlt2 : k < k0 + 2
        · rcases two hk (HR.out (k - 2) (by omega)) with k1 | ⟨k1, k2⟩ <;>
            (go_wp2_with (go_at_call 19; refine (HF.out _ (by omega) (by omega)).mono ?_; rintro e w' ⟨rfl, hw⟩; have hw2 := hw.symm; subst hw2; clear hw)
             go_round
             case rel => exact ⟨rfl, k + 1, by go_num, by omega, by omega⟩
             case measure => simp [intOf]; omega)
        · have he : k = k0 + 2 := by omega
          have k1 : (Gi z (k : Int) == 10) = true := by rw [gik z _ hk, he]; simpa using hb1.out.1
          have k2 : (Gi z ((k : Int) - 1) != 13) = true := by rw [gim z _ hk, he]; simpa using hb1.out.2
          clear he
          go_wp2_with (go_at_call 19; refine (HF.out _ (by omega) (by omega)).mono ?_; rintro e w' ⟨rfl, hw⟩; have hw2 := hw.symm; subst hw2; clear hw)
          go_ret2
          exact ⟨_, _, rfl, HA.out, rfl⟩

set_option maxHeartbeats 2000000 in
theorem model_SSg (a : Option Addr) (n : Nat) (z : Nat → Int) (w : World) (hn : n ≤ 1048576) (hr : Row w a n z) (p0 : Nat) (hp0 : p0 < n - 1) (hb0 : isBlank z p0) (hB : ∀ q, q < p0 → ¬ isBlank z q) (k0 : Nat) (hk0 : k0 < n) (hb1 : isBare z k0) (hR : ∀ q, q < k0 → ¬ isBare z q) (ho : p0 + 2 ≤ k0) :
    Calls Try.prog 9 #[.slice a n n] w fun e w' => HeadPost z n w e w' := by
  have HF : Hid (∀ x : Int, 0 ≤ x → x < (n : Int) + 2 → Calls Try.prog 19 #[.slice a n n, .int .i64 x] w fun e w' => e = .returned (.int .u8 (Gi z x)) ∧ w' = w) := fun x h0 h1 => framed a n z w x hn hr h0 h1
  have HA : Hid (Ans z n ((p0 : Int) + 2) true) := Or.inr (Or.inl ⟨p0, by omega, hb0, fun k hk => hR k (by omega), hB, rfl, rfl⟩)
  replace hB := hide hB
  have HB := hB
  replace hR := hide hR
  have HR := hR
  replace hb0 := hide hb0
  replace hb1 := hide hb1
  clear hB hR hr
  go_enter Try.func9, Try.ntmps9
  go_wp2
  go_loop [5, 6] (fun vb vp => vb = .int .i64 (-1) ∧ ∃ p : Nat, vp = .int .i64 p ∧ p ≤ p0) (fun _ vp => n + 2 - (intOf vp).toNat)
  case atStart => exact ⟨rfl, 0, rfl, Nat.zero_le _⟩
  case round =>
    obtain ⟨rfl, p, rfl, hp⟩ := hrel
    by_cases hlt : p < p0
    · rcases four (HB.out p hlt) with g1 | ⟨g1, g2⟩ | ⟨g1, g2, g3⟩ | ⟨g1, g2, g3, g4⟩ <;>
        (go_wp2_with (go_at_call 19; refine (HF.out _ (by omega) (by omega)).mono ?_; rintro e w' ⟨rfl, hw⟩; have hw2 := hw.symm; subst hw2; clear hw)
         go_round
         case rel => exact ⟨rfl, p + 1, by go_num, by omega⟩
         case measure => simp [intOf]; omega)
    · obtain rfl : p = p0 := by omega
      have g1 : (Gi z (p : Int) == 13) = true := by rw [gi0]; simpa using hb0.out.1
      have g2 : (Gi z ((p : Int) + 1) == 10) = true := by rw [gi1]; simpa using hb0.out.2.1
      have g3 : (Gi z ((p : Int) + 2) == 13) = true := by rw [gi2]; simpa using hb0.out.2.2.1
      have g4 : (Gi z ((p : Int) + 3) == 10) = true := by rw [gi3]; simpa using hb0.out.2.2.2
      go_wp2_with (go_at_call 19; refine (HF.out _ (by omega) (by omega)).mono ?_; rintro e w' ⟨rfl, hw⟩; have hw2 := hw.symm; subst hw2; clear hw)
      go_loop [7, 8] (fun vb vk => vb = .int .i64 (-1) ∧ ∃ k : Nat, vk = .int .i64 k ∧ 2 ≤ k ∧ k ≤ k0 + 2) (fun _ vk => n + 2 - (intOf vk).toNat)
      case atStart => exact ⟨rfl, 2, rfl, by omega, by omega⟩
      case round =>
        obtain ⟨rfl, k, rfl, hk, hkn⟩ := hrel
        by_cases hlt2 : k < k0 + 2
        · rcases two hk (HR.out (k - 2) (by omega)) with k1 | ⟨k1, k2⟩ <;>
            (go_wp2_with (go_at_call 19; refine (HF.out _ (by omega) (by omega)).mono ?_; rintro e w' ⟨rfl, hw⟩; have hw2 := hw.symm; subst hw2; clear hw)
             go_round
             case rel => exact ⟨rfl, k + 1, by go_num, by omega, by omega⟩
             case measure => simp [intOf]; omega)
        · have he : k = k0 + 2 := by omega
          have k1 : (Gi z (k : Int) == 10) = true := by rw [gik z _ hk, he]; simpa using hb1.out.1
          have k2 : (Gi z ((k : Int) - 1) != 13) = true := by rw [gim z _ hk, he]; simpa using hb1.out.2
          clear he
          go_wp2_with (go_at_call 19; refine (HF.out _ (by omega) (by omega)).mono ?_; rintro e w' ⟨rfl, hw⟩; have hw2 := hw.symm; subst hw2; clear hw)
          go_ret2
          exact ⟨_, _, rfl, HA.out, rfl⟩

theorem model_any (a : Option Addr) (n : Nat) (z : Nat → Int) (w : World) (hn : n ≤ 1048576) (hr : Row w a n z) :
    Calls Try.prog 9 #[.slice a n n] w fun e w' => HeadPost z n w e w' := by
  rcases fst_some (isBlank z) (n - 1) with h1 | ⟨p0, h1, h2, h3⟩ <;> rcases fst_some (isBare z) n with g1 | ⟨k0, g1, g2, g3⟩
  · exact model_NN a n z w hn hr h1 g1
  · exact model_NS a n z w hn hr h1 k0 g1 g2 g3
  · exact model_SN a n z w hn hr p0 h1 h2 h3 g1
  · rcases Nat.lt_or_ge k0 (p0 + 2) with h | h
    · exact model_SSl a n z w hn hr p0 h1 h2 h3 k0 g1 g2 g3 h
    · exact model_SSg a n z w hn hr p0 h1 h2 h3 k0 g1 g2 g3 h
end Go.Proofs.Qxb6602146a
