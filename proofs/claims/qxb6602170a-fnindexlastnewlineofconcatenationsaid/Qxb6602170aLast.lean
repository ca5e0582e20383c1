/- indexLastNewline. -/
import Derived.Test.Qxb6602170aIdx
import Derived.Test.Qxb6602170aPlain
namespace Go.Proofs.Qxb6602170a
open Go.RowKit
set_option linter.unusedVariables false

/-- A slice of n bytes z, in a block below B. -/
def Row (B : Nat) (w : World) (a : Option Addr) (n : Nat) (z : Nat → Int) : Prop :=
  (a = none ∧ n = 0) ∨ ∃ b, a = some ⟨b, 0, none⟩ ∧ b < B ∧ ∀ j, j < n → w.cell? ⟨b, j, none⟩ = some (.int .u8 (z j))

/-- What the inner search knows: from s to a it has found the last line feed l ahead of a, or none. -/
def Seen (z : Nat → Int) (s a : Nat) (l : Int) : Prop := (l = -1 ∧ a = s) ∨ (l = (a : Int) - 1 ∧ s < a ∧ z (a - 1) = 10)

set_option maxHeartbeats 1000000 in
theorem last_some (bl n : Nat) (z : Nat → Int) (w : World) (hn : n ≤ 1048576) (hz : ∀ j, 0 ≤ z j ∧ z j ≤ 255)
    (hc : ∀ j, j < n → w.cell? ⟨bl, j, none⟩ = some (.int .u8 (z j))) :
    Calls Try.prog 19 #[.slice (some ⟨bl, 0, none⟩) n n] w fun e w' => e = .returned (.int .i64 (lastNL z n)) ∧ w' = w := by
  have HC := hide hc
  have HZ := hide hz
  obtain ⟨R, hR⟩ : ∃ R, R = lastNL z n := ⟨_, rfl⟩
  rw [← hR]
  replace hR := hide hR
  clear hc hz
  go_enter Try.func19, Try.ntmps19
  go_wp2
  go_loop [3] (fun ve => ∃ e : Nat, ve = .int .i64 e ∧ e ≤ n ∧ Hid (R = lastNL z e)) (fun ve => (intOf ve).toNat)
  case atStart => exact ⟨n, rfl, Nat.le_refl _, hR⟩
  case round =>
    obtain ⟨e, rfl, he, HE⟩ := hrel
    by_cases h0 : e = 0
    · subst h0
      have hE : R = -1 := HE.out
      clear HE hR
      subst hE
      go_wp2
      go_ret
      exact ⟨rfl, rfl⟩
    · obtain ⟨s, hs1, hs2, hs3⟩ : ∃ s : Nat, s < e ∧ max ((e : Int) - 256) 0 = (s : Int) ∧ (s = 0 ∨ s + 256 = e) := by
        by_cases h : e ≤ 256
        · exact ⟨0, by omega, by omega, Or.inl rfl⟩
        · exact ⟨e - 256, by omega, by omega, Or.inr (by omega)⟩
      replace hs3 := hide hs3
      go_wp2
      go_loop [5, 6] (fun vl va => ∃ (l : Int) (a : Nat), vl = .int .i64 l ∧ va = .int .i64 a ∧ s ≤ a ∧ a ≤ e ∧ Hid (Seen z s a l)) (fun _ va => e - (intOf va).toNat)
      case atStart => exact ⟨-1, s, rfl, rfl, Nat.le_refl _, by omega, Or.inl ⟨rfl, rfl⟩⟩
      case round =>
        obtain ⟨l, a, rfl, rfl, ha1, ha2, HS⟩ := hrel
        have hno : (∃ o : Nat, nl (fun j => z (a + j)) (e - a) = o ∧ o < e - a ∧ z (a + o) = 10) ∨ (nl (fun j => z (a + j)) (e - a) = -1 ∧ ∀ j, a ≤ j → j < e → z j ≠ 10) := by
          rcases nl_cases (fun j => z (a + j)) (e - a) (fun j => HZ.out _) with ⟨h1, h2⟩ | ⟨o, h1, h2, h3, h4⟩
          · refine Or.inr ⟨h1, fun j h5 h6 => ?_⟩
            have := h2 (j - a) (by omega)
            rwa [show a + (j - a) = j from by omega] at this
          · exact Or.inl ⟨o, h1, h2, h3⟩
        have HX : Hid (∀ x c, (0 < e - a → x = some ⟨bl, a, none⟩) → Calls Try.prog 21 #[.slice x (e - a) c, .int .u8 10] w fun e' w' => e' = .returned (.int .i64 (nl (fun j => z (a + j)) (e - a))) ∧ w' = w) := by
          intro x c hx
          refine idx21 _ (e - a) c _ w fun h0 => ⟨_, hx h0, fun j hj => ?_⟩
          rw [add_none]
          exact HC.out (a + j) (by omega)
        rcases hno with ⟨o, h1, h2, h3⟩ | ⟨h1, h2⟩
        · rw [h1] at HX
          have HS2 : Hid (Seen z s (a + o + 1) ((a : Int) + (o : Int))) := Or.inr ⟨by omega, by omega, by rw [show a + o + 1 - 1 = a + o from by omega]; exact h3⟩
          clear HS h1 h3
          go_wp2_with (go_at_call 21; refine (HX.out _ _ (fun _ => rfl)).mono ?_; rintro e w' ⟨rfl, hw⟩; have hw2 := hw.symm; subst hw2; clear hw)
          go_round
          case rel => exact ⟨(a : Int) + (o : Int), a + o + 1, rfl, by go_num, by omega, by omega, HS2⟩
          case measure => simp [intOf]; omega
        · rw [h1] at HX
          rcases HS.out with ⟨rfl, rfl⟩ | ⟨h4, h5, h6⟩
          · have HE2 : Hid (R = lastNL z a) := HE.out.trans (last_skip (by omega) (fun j h7 h8 => h2 j (by omega) h8))
            clear h1 h2 HS HE hR
            by_cases hae : a < n
            · go_wp2_with (go_at_call 21; refine (HX.out _ _ (fun _ => rfl)).mono ?_; rintro e w' ⟨rfl, hw⟩; have hw2 := hw.symm; subst hw2; clear hw)
              go_round
              case rel => exact ⟨a, rfl, by omega, HE2⟩
              case measure => simp [intOf]; omega
            · omega
          · have hl : R = l := HE.out.trans ((last_at (l := a - 1) (by omega) h6 (fun j h7 h8 => h2 j (by omega) h8)).trans (by omega))
            clear h1 h2 HS HE hR
            subst hl
            have h9 : (0 : Int) ≤ R := by omega
            clear h4
            by_cases hae : a < n
            · go_wp2_with (go_at_call 21; refine (HX.out _ _ (fun _ => rfl)).mono ?_; rintro e w' ⟨rfl, hw⟩; have hw2 := hw.symm; subst hw2; clear hw)
              go_ret
              exact ⟨rfl, rfl⟩
            · obtain rfl : a = n := by omega
              obtain rfl : e = a := by omega
              have e0 : e - e = 0 := by omega
              rw [e0] at HX
              go_wp2_with (go_at_call 21; refine (HX.out _ _ (fun h => absurd h (by omega))).mono ?_; rintro e w' ⟨rfl, hw⟩; have hw2 := hw.symm; subst hw2; clear hw)
              go_ret
              exact ⟨rfl, rfl⟩
end Go.Proofs.Qxb6602170a
