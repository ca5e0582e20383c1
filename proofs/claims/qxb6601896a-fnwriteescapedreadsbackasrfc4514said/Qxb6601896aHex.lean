/- zzIsHex, zzHexVal, zzSpecial, zzSameBytes. -/
import Derived.Test.Qxb6601896aSeq
import Derived.Test.Qxb6601896aRead
import Derived.Deep.QuietTactic
import Derived.BigQuiet
namespace Go.Proofs.Qxb6601896a
open Go.RowKit
set_option linter.unusedVariables false

theorem hex_any (x : Int) (w : World) : Calls Try.prog 29 #[.int .u8 x] w fun e w' => e = .returned (.bool (hexB x)) ∧ w' = w := by
  have e : hexB x = (inB x 48 57 || inB x 97 102 || inB x 65 70) := by
    unfold hexB inB
    rw [Bool.eq_iff_iff]
    simp [or_assoc]
  rw [e]
  cases h1 : inB x 48 57
  · cases h2 : inB x 97 102
    · go_enter Try.func29, Try.ntmps29
      go_wp2_with (go_at_call 38; refine (in_any _ _ _ _).mono ?_; rintro e w' ⟨rfl, hw⟩; have hw2 := hw.symm; subst hw2; clear hw)
      go_ret
      exact ⟨rfl, rfl⟩
    · go_enter Try.func29, Try.ntmps29
      go_wp2_with (go_at_call 38; refine (in_any _ _ _ _).mono ?_; rintro e w' ⟨rfl, hw⟩; have hw2 := hw.symm; subst hw2; clear hw)
      go_ret
      exact ⟨rfl, rfl⟩
  · go_enter Try.func29, Try.ntmps29
    go_wp2_with (go_at_call 38; refine (in_any _ _ _ _).mono ?_; rintro e w' ⟨rfl, hw⟩; have hw2 := hw.symm; subst hw2; clear hw)
    go_ret
    exact ⟨rfl, rfl⟩

theorem hexv_any (x : Int) (w : World) (h : hexB x = true) : Calls Try.prog 30 #[.int .u8 x] w fun e w' => e = .returned (.int .u8 (hexV x)) ∧ w' = w := by
  unfold hexB at h
  simp only [decide_eq_true_eq] at h
  unfold hexV
  rcases h with ⟨h1, h2⟩ | ⟨h1, h2⟩ | ⟨h1, h2⟩
  · rw [if_pos h2]
    go_enter Try.func30, Try.ntmps30
    go_wp2
    go_ret
    exact ⟨rfl, rfl⟩
  · rw [if_neg (by omega), if_pos h1]
    go_enter Try.func30, Try.ntmps30
    go_wp2
    go_ret
    exact ⟨by go_num, rfl⟩
  · rw [if_neg (by omega), if_neg (by omega)]
    go_enter Try.func30, Try.ntmps30
    go_wp2
    go_ret
    exact ⟨by go_num, rfl⟩

theorem spec_any (x : Int) (w : World) : Calls Try.prog 31 #[.int .u8 x] w fun e w' => e = .returned (.bool (spB x)) ∧ w' = w := by
  by_cases h : x = 34 ∨ x = 43 ∨ x = 44 ∨ x = 59 ∨ x = 60 ∨ x = 62 ∨ x = 92
  · have e : spB x = true := by unfold spB; simpa using h
    rw [e]
    rcases h with rfl | rfl | rfl | rfl | rfl | rfl | rfl <;>
      (go_enter Try.func31, Try.ntmps31
       go_wp2
       go_ret
       exact ⟨rfl, rfl⟩)
  · have e : spB x = false := by unfold spB; simpa using h
    rw [e]
    have e34 : (x == 34) = false := by simp; omega
    have e43 : (x == 43) = false := by simp; omega
    have e44 : (x == 44) = false := by simp; omega
    have e59 : (x == 59) = false := by simp; omega
    have e60 : (x == 60) = false := by simp; omega
    have e62 : (x == 62) = false := by simp; omega
    have e92 : (x == 92) = false := by simp; omega
    clear h e
    go_enter Try.func31, Try.ntmps31
    go_wp2
    go_ret
    exact ⟨rfl, rfl⟩

set_option maxHeartbeats 1000000 in
theorem same_some (a1 a2 : Option Addr) (n c1 c2 : Nat) (z : Nat → Int) (w : World) (hn : n ≤ 4194304)
    (h1 : 0 < n → ∃ b, a1 = some ⟨b, 0, none⟩ ∧ ∀ j, j < n → w.cell? ⟨b, j, none⟩ = some (.int .u8 (z j))) (h2 : 0 < n → ∃ b, a2 = some ⟨b, 0, none⟩ ∧ ∀ j, j < n → w.cell? ⟨b, j, none⟩ = some (.int .u8 (z j))) :
    Calls Try.prog 13 #[.slice a1 n c1, .slice a2 n c2] w fun e w' => e = .returned (.bool true) ∧ ∃ m, w' = w.drewN m := by
  have H1 := hide h1
  have H2 := hide h2
  have hne : ((n : Int) != (n : Int)) = false := by simp
  clear h1 h2
  go_enter Try.func13, Try.ntmps13
  go_wp2
  go_loopw [5] (fun vi wr => ∃ i m : Nat, vi = .int .i64 i ∧ i ≤ n ∧ wr = w.drewN m) (fun vi _ => n - (intOf vi).toNat)
  case atStart => exact ⟨0, 0, rfl, Nat.zero_le _, rfl⟩
  case round =>
    obtain ⟨i, m, rfl, hi, rfl⟩ := hrel
    by_cases hlt : i < n
    · obtain ⟨b1, rfl, hc1⟩ := H1.out (by omega)
      obtain ⟨b2, rfl, hc2⟩ := H2.out (by omega)
      have g1 := hc1 i hlt
      have g2 := hc2 i hlt
      have bi : (i : Int) < (n : Int) := by omega
      have b0 : (0 : Int) ≤ (i : Int) := by omega
      clear hc1 hc2
      go_wp2
      go_quiet (fail)
      go_wp2
      go_roundw
      case rel => exact ⟨i + 1, _, by go_num, by omega, rfl⟩
      case measure => simp [intOf]; omega
    · go_wp2
      go_ret
      exact ⟨rfl, _, rfl⟩

theorem bs_at {B : Nat} {w : World} {ao : Option Addr} {cap n : Nat} {l : List UInt8} (h : BS B w (.slice ao n cap) l) (h0 : 0 < n) : ∃ b, ao = some ⟨b, 0, none⟩ ∧ ∀ j, j < n → w.cell? ⟨b, j, none⟩ = some (.int .u8 (bt l j)) := by
  rcases h with ⟨h1, h2⟩ | ⟨b, c, h1, _, _, h4⟩
  · injection h1 with _ h3 _; omega
  · injection h1 with h5 h6 h7
    exact ⟨b, h5, fun j hj => h4 j (by omega)⟩

theorem same_any (B : Nat) (v1 v2 : Value) (l : List UInt8) (w : World) (hn : l.length ≤ 4194304) (h1 : BS B w v1 l) (h2 : BS B w v2 l) :
    Calls Try.prog 13 #[v1, v2] w fun e w' => e = .returned (.bool true) ∧ ∃ m, w' = w.drewN m := by
  have s1 : ∃ ao cap, v1 = .slice ao l.length cap := by
    rcases h1 with ⟨a, b⟩ | ⟨b, cap, a, _⟩
    · exact ⟨none, 0, by rw [a, b]; rfl⟩
    · exact ⟨_, _, a⟩
  have s2 : ∃ ao cap, v2 = .slice ao l.length cap := by
    rcases h2 with ⟨a, b⟩ | ⟨b, cap, a, _⟩
    · exact ⟨none, 0, by rw [a, b]; rfl⟩
    · exact ⟨_, _, a⟩
  obtain ⟨a1, c1, rfl⟩ := s1
  obtain ⟨a2, c2, rfl⟩ := s2
  exact same_some a1 a2 l.length c1 c2 (bt l) w hn (bs_at h1) (bs_at h2)

end Go.Proofs.Qxb6601896a
