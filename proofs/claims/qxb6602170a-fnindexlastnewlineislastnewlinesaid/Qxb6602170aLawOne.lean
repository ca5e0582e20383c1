/- The law of the scan back from the end. -/
import Derived.Test.Qxb6602170aClone
namespace Go.Proofs.Qxb6602170a
open Go.RowKit
set_option linter.unusedVariables false

set_option maxHeartbeats 1000000 in
theorem one_long (a : Option Addr) (n cap : Nat) (w : World) (hm : n ≤ maxLen) (h : ¬ n ≤ 1048576) : Calls Try.prog 3 #[.slice a n cap] w fun e w' => e = .returned (.bool true) ∧ Below w.heap.size w w' := by
  have H8 := hide (sizes8 a n cap w hm)
  have h4 : decide (n ≤ 1048576) = false := by simpa using h
  rw [h4] at H8
  clear hm h4
  go_enter Try.func3, Try.ntmps3
  go_wp2_with (go_at_call 8; refine H8.out.mono ?_; rintro e w' ⟨rfl, hw⟩; have hw2 := hw.symm; subst hw2; clear hw)
  go_ret
  exact ⟨rfl, Below.refl _ _⟩

set_option maxHeartbeats 1000000 in
theorem one_none (a : Option Addr) (n cap : Nat) (zs : List Int) (w : World) (hr : InRow w a n cap zs) (hm : n ≤ 1048576) (h1 : lastNL (inZ zs) n = -1) (h2 : ∀ j, j < n → inZ zs j ≠ 10) :
    Calls Try.prog 3 #[.slice a n cap] w fun e w' => e = .returned (.bool true) ∧ Below w.heap.size w w' := by
  have H8 := hide (sizes8 a n cap w hr.le)
  have h4 : decide (n ≤ 1048576) = true := by simpa using hm
  rw [h4] at H8
  have H9 := hide (clone_any a n cap zs w hr hm)
  have HZ := hide hr.byte
  have HN := hide h2
  have HL := hide h1
  clear hr h1 h2 h4
  go_enter Try.func3, Try.ntmps3
  go_wp2_with (go_at_call 8; refine H8.out.mono ?_; rintro e w' ⟨rfl, hw⟩; have hw2 := hw.symm; subst hw2; clear hw)
  go_wp2_with (go_at_call 9; refine H9.out.mono ?_; rintro e w' ⟨a', rfl, hrow, hb⟩; have H10 := hide (zlast_any _ a' n _ w' hm HZ.out hrow); rw [HL.out] at H10; replace hrow := hide hrow; replace hb := hide hb)
  go_loop [3, 4] (fun vl vi => vl = .int .i64 (-1) ∧ ∃ i : Int, vi = .int .i64 i ∧ -1 ≤ i ∧ i < n) (fun _ vi => (intOf vi + 1).toNat)
  case atStart => exact ⟨rfl, (n : Int) - 1, by go_num, by omega, by omega⟩
  case round =>
    obtain ⟨rfl, i, rfl, hi1, hi2⟩ := hrel
    by_cases h0 : i < 0
    · go_wp2_with (go_at_call 10; refine H10.out.mono ?_; rintro e w' ⟨rfl, hw⟩; have hw2 := hw.symm; subst hw2; clear hw)
      go_ret
      exact ⟨rfl, hb.out⟩
    · obtain ⟨t, rfl⟩ : ∃ t : Nat, i = t := ⟨i.toNat, by omega⟩
      obtain ⟨b, rfl, _, hc⟩ := hrow.out.at (by omega)
      have c1 := hc t (by omega)
      have g1 : (inZ zs t == 10) = false := by simpa using HN.out t (by omega)
      clear hc
      go_wp2
      go_round
      case rel => exact ⟨rfl, (t : Int) - 1, by go_num, by omega, by omega⟩
      case measure => simp [intOf]

set_option maxHeartbeats 1000000 in
theorem one_some (a : Option Addr) (n cap : Nat) (zs : List Int) (w : World) (hr : InRow w a n cap zs) (hm : n ≤ 1048576) (i0 : Nat) (h1 : lastNL (inZ zs) n = i0) (h2 : i0 < n) (h3 : inZ zs i0 = 10) (h4 : ∀ j, i0 + 1 ≤ j → j < n → inZ zs j ≠ 10) :
    Calls Try.prog 3 #[.slice a n cap] w fun e w' => e = .returned (.bool true) ∧ Below w.heap.size w w' := by
  have H8 := hide (sizes8 a n cap w hr.le)
  have h5 : decide (n ≤ 1048576) = true := by simpa using hm
  rw [h5] at H8
  have H9 := hide (clone_any a n cap zs w hr hm)
  have HZ := hide hr.byte
  have HN := hide h4
  have HL := hide h1
  have HT := hide h3
  clear hr h1 h3 h4 h5
  go_enter Try.func3, Try.ntmps3
  go_wp2_with (go_at_call 8; refine H8.out.mono ?_; rintro e w' ⟨rfl, hw⟩; have hw2 := hw.symm; subst hw2; clear hw)
  go_wp2_with (go_at_call 9; refine H9.out.mono ?_; rintro e w' ⟨a', rfl, hrow, hb⟩; have H10 := hide (zlast_any _ a' n _ w' hm HZ.out hrow); rw [HL.out] at H10; replace hrow := hide hrow; replace hb := hide hb)
  go_loop [3, 4] (fun vl vi => vl = .int .i64 (-1) ∧ ∃ t : Nat, vi = .int .i64 t ∧ i0 ≤ t ∧ t < n) (fun _ vi => (intOf vi).toNat)
  case atStart => exact ⟨rfl, n - 1, by go_num, by omega, by omega⟩
  case round =>
    obtain ⟨rfl, t, rfl, hi1, hi2⟩ := hrel
    obtain ⟨b, rfl, _, hc⟩ := hrow.out.at (by omega)
    have c1 := hc t (by omega)
    by_cases h0 : i0 < t
    · have g1 : (inZ zs t == 10) = false := by simpa using HN.out t (by omega) (by omega)
      clear hc
      go_wp2
      go_round
      case rel => exact ⟨rfl, t - 1, by go_num, by omega, by omega⟩
      case measure => simp [intOf]; omega
    · obtain rfl : t = i0 := by omega
      have g1 : (inZ zs t == 10) = true := by simpa using HT.out
      clear hc
      go_wp2_with (go_at_call 10; refine H10.out.mono ?_; rintro e w' ⟨rfl, hw⟩; have hw2 := hw.symm; subst hw2; clear hw)
      go_ret
      exact ⟨by simp, hb.out⟩

theorem one_any (a : Option Addr) (len cap : Nat) (zs : List Int) (w : World) (hr : InRow w a len cap zs) :
    Calls Try.prog 3 #[.slice a len cap] w fun e w' => e = .returned (.bool true) ∧ Below w.heap.size w w' := by
  by_cases hm : len ≤ 1048576
  · rcases last_cases (inZ zs) len with ⟨h1, h2⟩ | ⟨i, h1, h2, h3, h4⟩
    · exact one_none a len cap zs w hr hm h1 h2
    · exact one_some a len cap zs w hr hm i h1 h2 h3 h4
  · exact one_long a len cap w hr.le hm
end Go.Proofs.Qxb6602170a
