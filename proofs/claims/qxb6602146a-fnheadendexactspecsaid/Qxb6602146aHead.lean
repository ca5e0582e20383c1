/- headEnd and the framed byte. -/
import Derived.Test.Qxb6602146aIdx
import Derived.Test.Qxb6602146aPlain
namespace Go.Proofs.Qxb6602146a
open Go.RowKit
set_option linter.unusedVariables false

/-- The slice's address, where it has a byte: its bytes are z. -/
def Row (w : World) (a : Option Addr) (n : Nat) (z : Nat → Int) : Prop :=
  (a = none ∧ n = 0) ∨ ∃ b, a = some ⟨b, 0, none⟩ ∧ ∀ j, j < n → w.cell? ⟨b, j, none⟩ = some (.int .u8 (z j))

def HeadPost (z : Nat → Int) (n : Nat) (w : World) (e : Ending) (w' : World) : Prop := ∃ r b, e = .returned (.tuple #[.int .i64 r, .bool b]) ∧ Ans z n r b ∧ w' = w

set_option maxHeartbeats 1000000 in
theorem head_some (bl n : Nat) (z : Nat → Int) (w : World) (hn : n ≤ 1048576) (hz : ∀ j, 0 ≤ z j ∧ z j ≤ 255)
    (hc : ∀ j, j < n → w.cell? ⟨bl, j, none⟩ = some (.int .u8 (z j))) :
    Calls Try.prog 18 #[.slice (some ⟨bl, 0, none⟩) n n] w fun e w' => HeadPost z n w e w' := by
  have HC := hide hc
  have HZ := hide hz
  clear hc hz
  go_enter Try.func18, Try.ntmps18
  go_wp2
  go_loop [4] (fun vs => ∃ s : Nat, vs = .int .i64 s ∧ s ≤ n ∧ Hid (Inv z s)) (fun vs => n - (intOf vs).toNat)
  case atStart => exact ⟨0, rfl, Nat.zero_le _, inv0 z⟩
  case round =>
    obtain ⟨s, rfl, hs, HI⟩ := hrel
    rcases Nat.lt_or_eq_of_le hs with hlt | heq
    · have HX : Hid (∀ c, Calls Try.prog 21 #[.slice (some ⟨bl, s, none⟩) (n - s) c, .int .u8 10] w fun e w' => e = .returned (.int .i64 (nl (fun j => z (s + j)) (n - s))) ∧ w' = w) := by
        intro c
        refine idx21 _ (n - s) c _ w fun h0 => ⟨_, rfl, fun j hj => ?_⟩
        rw [add_none]
        exact HC.out (s + j) (by omega)
      rcases nl_cases (fun j => z (s + j)) (n - s) (fun j => HZ.out _) with ⟨h1, h2⟩ | ⟨o, h1, h2, h3, h4⟩
      · rw [h1] at HX
        have HA : Hid (Ans z n 0 true) := ans_none HI.out (fun j h5 h6 => by have := h2 (j - s) (by omega); rwa [show s + (j - s) = j from by omega] at this)
        clear h1 h2 HI
        go_wp2_with (go_at_call 21; refine (HX.out _).mono ?_; rintro e w' ⟨rfl, hw⟩; have hw2 := hw.symm; subst hw2; clear hw)
        go_ret2
        exact ⟨_, _, rfl, HA.out, rfl⟩
      · rw [h1] at HX
        have HN : Hid (∀ j, s ≤ j → j < s + o → z j ≠ 10) := fun j h5 h6 => by have := h4 (j - s) (by omega); rwa [show s + (j - s) = j from by omega] at this
        clear h1 h4
        by_cases h0 : o + s = 0
        · obtain ⟨rfl, rfl⟩ : o = 0 ∧ s = 0 := by omega
          have HA : Hid (Ans z n 0 false) := ans_bare HI.out (Nat.le_refl _) hlt HN.out h3 (Or.inl rfl)
          clear HN HI
          go_wp2_with (go_at_call 21; refine (HX.out _).mono ?_; rintro e w' ⟨rfl, hw⟩; have hw2 := hw.symm; subst hw2; clear hw)
          go_ret2
          exact ⟨_, _, rfl, HA.out, rfl⟩
        · obtain ⟨t, ht⟩ : ∃ t, o + s = t + 1 := ⟨o + s - 1, by omega⟩
          have c1 := HC.out t (by omega)
          have e1 : (((o : Int) + (s : Int)) == 0) = false := by simp; omega
          have e2 : ((o : Int) + (s : Int)) - 1 = (t : Int) := by omega
          by_cases h13 : z t = 13
          · have b13 : (z t != 13) = false := by simp [h13]
            by_cases hts : t = s
            · subst hts
              obtain rfl : o = 1 := by omega
              have HA : Hid (Ans z n ((t : Int) + 2) true) := ans_blank HI.out (by omega) h13 h3
              clear HN HI
              go_wp2_with (go_at_call 21; refine (HX.out _).mono ?_; rintro e w' ⟨rfl, hw⟩; have hw2 := hw.symm; subst hw2; clear hw)
              go_ret2
              exact ⟨_, _, rfl, by rw [show (1 : Int) + (t : Int) + 1 = (t : Int) + 2 from by omega]; exact HA.out, rfl⟩
            · have e3 : ((t : Int) == (s : Int)) = false := by simp; omega
              have HI2 : Hid (Inv z (s + o + 1)) := inv_next HI.out (i := s + o) (by omega) HN.out h3 (by omega) (by rw [show s + o - 1 = t from by omega]; exact h13) (by omega)
              clear HN HI
              go_wp2_with (go_at_call 21; refine (HX.out _).mono ?_; rintro e w' ⟨rfl, hw⟩; have hw2 := hw.symm; subst hw2; clear hw)
              go_round
              case rel => exact ⟨s + o + 1, by go_num, by omega, HI2⟩
              case measure => simp [intOf]; omega
          · have b13 : (z t != 13) = true := by simp [h13]
            have HA : Hid (Ans z n 0 false) := ans_bare HI.out (i := s + o) (by omega) (by omega) HN.out h3 (Or.inr (by rw [show s + o - 1 = t from by omega]; exact h13))
            clear HN HI
            go_wp2_with (go_at_call 21; refine (HX.out _).mono ?_; rintro e w' ⟨rfl, hw⟩; have hw2 := hw.symm; subst hw2; clear hw)
            go_ret2
            exact ⟨_, _, rfl, HA.out, rfl⟩
    · subst heq
      have HX : Hid (∀ a c, Calls Try.prog 21 #[.slice a 0 c, .int .u8 10] w fun e w' => e = .returned (.int .i64 (-1)) ∧ w' = w) := by
        intro a c
        exact idx21 _ 0 c z w fun h0 => absurd h0 (by omega)
      have HA : Hid (Ans z s 0 true) := ans_none HI.out (fun j h5 h6 => by omega)
      clear HI
      go_wp2_with (go_at_call 21; refine (HX.out _ _).mono ?_; rintro e w' ⟨rfl, hw⟩; have hw2 := hw.symm; subst hw2; clear hw)
      go_ret2
      exact ⟨_, _, rfl, HA.out, rfl⟩

set_option maxHeartbeats 1000000 in
theorem head_none (w : World) (z : Nat → Int) :
    Calls Try.prog 18 #[.slice none 0 0] w fun e w' => HeadPost z 0 w e w' := by
  have HX : Hid (∀ a c, Calls Try.prog 21 #[.slice a 0 c, .int .u8 10] w fun e w' => e = .returned (.int .i64 (-1)) ∧ w' = w) := by
    intro a c
    exact idx21 _ 0 c z w fun h0 => absurd h0 (by omega)
  have HA : Hid (Ans z 0 0 true) := ans_none (inv0 z) (fun j h5 h6 => by omega)
  go_enter Try.func18, Try.ntmps18
  go_wp2
  go_loop [4] (fun vs => vs = .int .i64 0) (fun vs => 0)
  case atStart => rfl
  case round =>
    subst hrel
    go_wp2_with (go_at_call 21; refine (HX.out _ _).mono ?_; rintro e w' ⟨rfl, hw⟩; have hw2 := hw.symm; subst hw2; clear hw)
    go_ret2
    exact ⟨_, _, rfl, HA.out, rfl⟩

theorem head_any (a : Option Addr) (n : Nat) (z : Nat → Int) (w : World) (hn : n ≤ 1048576) (hz : ∀ j, 0 ≤ z j ∧ z j ≤ 255) (hr : Row w a n z) :
    Calls Try.prog 18 #[.slice a n n] w fun e w' => HeadPost z n w e w' := by
  rcases hr with ⟨rfl, rfl⟩ | ⟨b, rfl, hc⟩
  · exact head_none w z
  · exact head_some b n z w hn hz hc

theorem zhead_any (a : Option Addr) (n : Nat) (z : Nat → Int) (w : World) (hn : n ≤ 1048576) (hz : ∀ j, 0 ≤ z j ∧ z j ≤ 255) (hr : Row w a n z) :
    Calls Try.prog 8 #[.slice a n n] w fun e w' => HeadPost z n w e w' := by
  have H := hide (head_any a n z w hn hz hr)
  clear hr hz
  go_enter Try.func8, Try.ntmps8
  go_wp2_with (go_at_call 18; refine H.out.mono ?_; rintro e w' ⟨r, b, rfl, ha, hw⟩; have hw2 := hw.symm; subst hw2; clear hw; replace ha := hide ha)
  go_ret2
  exact ⟨_, _, rfl, ha.out, rfl⟩

/-- The framed byte at a number. -/
def Gi (z : Nat → Int) (x : Int) : Int := G z x.toNat

theorem framed (a : Option Addr) (n : Nat) (z : Nat → Int) (w : World) (x : Int) (hn : n ≤ 1048576) (hr : Row w a n z) (h0 : 0 ≤ x) (h1 : x < (n : Int) + 2) :
    Calls Try.prog 19 #[.slice a n n, .int .i64 x] w fun e w' => e = .returned (.int .u8 (Gi z x)) ∧ w' = w := by
  obtain ⟨k, rfl⟩ : ∃ k : Nat, x = k := ⟨x.toNat, by omega⟩
  have hg : Gi z (k : Int) = G z k := rfl
  rw [hg]
  by_cases e0 : k = 0
  · subst e0
    rw [G0]
    clear hg hr
    go_enter Try.func19, Try.ntmps19
    go_wp2
    go_ret
    exact ⟨rfl, rfl⟩
  · by_cases e1 : k = 1
    · subst e1
      rw [G1]
      clear hg hr
      go_enter Try.func19, Try.ntmps19
      go_wp2
      go_ret
      exact ⟨rfl, rfl⟩
    · obtain ⟨t, rfl⟩ : ∃ t, k = t + 2 := ⟨k - 2, by omega⟩
      rw [G2]
      rcases hr with ⟨rfl, rfl⟩ | ⟨b, rfl, hc⟩
      · omega
      · have c1 := hc t (by omega)
        have e2 : ((t + 2 : Nat) : Int) - 2 = (t : Int) := by omega
        have b0 : (((t + 2 : Nat) : Int) == 0) = false := by simp; omega
        have b1 : (((t + 2 : Nat) : Int) == 1) = false := by simp; omega
        clear hc hg
        go_enter Try.func19, Try.ntmps19
        go_wp2
        go_ret
        exact ⟨rfl, rfl⟩
end Go.Proofs.Qxb6602146a
