/- zzIn, zzSeqLen, zzWellFormed. -/
import Derived.Test.Qxb6601896aClone
import Derived.Deep.CutBlock
import Derived.Deep.CutRange
namespace Go.Proofs.Qxb6601896a
open Go.RowKit
set_option linter.unusedVariables false

def inB (x lo hi : Int) : Bool := decide (lo ≤ x ∧ x ≤ hi)

theorem in_any (x lo hi : Int) (w : World) : Calls Try.prog 38 #[.int .u8 x, .int .u8 lo, .int .u8 hi] w fun e w' => e = .returned (.bool (inB x lo hi)) ∧ w' = w := by
  by_cases h1 : lo ≤ x
  · have d1 : decide (lo ≤ x) = true := by simpa using h1
    by_cases h2 : x ≤ hi
    · have e : inB x lo hi = true := by unfold inB; simpa using ⟨h1, h2⟩
      have d2 : decide (x ≤ hi) = true := by simpa using h2
      rw [e]
      go_enter Try.func38, Try.ntmps38
      go_wp2
      go_ret
      exact ⟨rfl, rfl⟩
    · have e : inB x lo hi = false := by unfold inB; simp [h2]
      have d2 : decide (x ≤ hi) = false := by simpa using h2
      rw [e]
      go_enter Try.func38, Try.ntmps38
      go_wp2
      go_ret
      exact ⟨rfl, rfl⟩
  · have e : inB x lo hi = false := by unfold inB; simp [h1]
    have d1 : decide (lo ≤ x) = false := by simpa using h1
    rw [e]
    go_enter Try.func38, Try.ntmps38
    go_wp2
    go_ret
    exact ⟨rfl, rfl⟩

/-- What the table says, case by case. -/
def ClsIs (x : Int) (k : Nat) (lo hi : Int) : Prop := ((194 ≤ x ∧ x ≤ 223) ∧ k = 2 ∧ lo = 128 ∧ hi = 191) ∨ ((x = 224) ∧ k = 3 ∧ lo = 160 ∧ hi = 191) ∨ ((225 ≤ x ∧ x ≤ 236) ∧ k = 3 ∧ lo = 128 ∧ hi = 191) ∨ ((x = 238) ∧ k = 3 ∧ lo = 128 ∧ hi = 191) ∨ ((x = 239) ∧ k = 3 ∧ lo = 128 ∧ hi = 191) ∨ ((x = 237) ∧ k = 3 ∧ lo = 128 ∧ hi = 159) ∨ ((x = 240) ∧ k = 4 ∧ lo = 144 ∧ hi = 191) ∨ ((241 ≤ x ∧ x ≤ 243) ∧ k = 4 ∧ lo = 128 ∧ hi = 191) ∨ ((x = 244) ∧ k = 4 ∧ lo = 128 ∧ hi = 143)

theorem clsIs (x : Int) (h : (clsB x).1 ≠ 0) : ClsIs x (clsB x).1 (clsB x).2.1 (clsB x).2.2 := by
  unfold ClsIs
  rcases clsB_cases x with ⟨h, e⟩ | ⟨h, e⟩ | ⟨h, e⟩ | ⟨h, e⟩ | ⟨h, e⟩ | ⟨h, e⟩ | ⟨h, e⟩ | ⟨_, e⟩
  case inr.inr.inr.inr.inr.inr.inr => rw [e] at h; simp at h
  all_goals (rw [e]; simp; omega)

set_option maxHeartbeats 4000000 in
set_option maxRecDepth 100000 in
theorem seq_cls (b n cap i : Nat) (z : Nat → Int) (w : World) (hn : n ≤ 4194304) (hin : i < n) (hc : ∀ j, j < n → w.cell? ⟨b, j, none⟩ = some (.int .u8 (z j))) (hz : ∀ j, 0 ≤ z j ∧ z j ≤ 255) (h128 : 128 ≤ z i)
    (k : Nat) (lo hi : Int) (HCL : Hid (ClsIs (z i) k lo hi)) (hk : 2 ≤ k ∧ k ≤ 4) (R : Nat)
    (HR : Hid (R = if n - i < k then 0 else if ¬ (lo ≤ z (i + 1) ∧ z (i + 1) ≤ hi) then 0 else if 3 ≤ k ∧ ¬ (128 ≤ z (i + 2) ∧ z (i + 2) ≤ 191) then 0 else if 4 ≤ k ∧ ¬ (128 ≤ z (i + 3) ∧ z (i + 3) ≤ 191) then 0 else k)) :
    Calls Try.prog 32 #[.slice (some ⟨b, 0, none⟩) n cap, .int .i64 i] w fun e w' => e = .returned (.int .i64 R) ∧ w' = w := by
  have c0 := hc i hin
  have z0 := hz i
  have HC := hide hc
  have HZ := hide hz
  have d128 : decide (z i < 128) = false := by simp; omega
  clear hc hz
  go_enter Try.func32, Try.ntmps32
  go_upto_block 0 with fail
  go_cut [7, 8, 9] from 21 to 49 (fun vl vh vk wc => vl = .int .u8 lo ∧ vh = .int .u8 hi ∧ vk = .int .i64 k ∧ wc = w)
  case first =>
    have hcl := HCL.out
    clear HR HC HZ
    unfold ClsIs at hcl
    rcases hcl with ⟨hx, rfl, rfl, rfl⟩ | ⟨hx, rfl, rfl, rfl⟩ | ⟨hx, rfl, rfl, rfl⟩ | ⟨hx, rfl, rfl, rfl⟩ | ⟨hx, rfl, rfl, rfl⟩ | ⟨hx, rfl, rfl, rfl⟩ | ⟨hx, rfl, rfl, rfl⟩ | ⟨hx, rfl, rfl, rfl⟩ | ⟨hx, rfl, rfl, rfl⟩
    · have ia : inB (z i) 194 223 = true := by unfold inB; simp; omega
      have ib : inB (z i) 225 236 = false := by unfold inB; simp; omega
      have ic : inB (z i) 241 243 = false := by unfold inB; simp; omega
      have e224 : (z i == 224) = false := by simp; omega
      have e237 : (z i == 237) = false := by simp; omega
      have e238 : (z i == 238) = false := by simp; omega
      have e239 : (z i == 239) = false := by simp; omega
      have e240 : (z i == 240) = false := by simp; omega
      have e244 : (z i == 244) = false := by simp; omega
      clear HCL hx
      go_wp2_with (go_at_call 38; refine (in_any _ _ _ _).mono ?_; rintro e w' ⟨rfl, hw⟩; have hw2 := hw.symm; subst hw2; clear hw)
      go_meet
      case rel => exact ⟨rfl, rfl, rfl, rfl⟩
    · have ia : inB (z i) 194 223 = false := by unfold inB; simp; omega
      have ib : inB (z i) 225 236 = false := by unfold inB; simp; omega
      have ic : inB (z i) 241 243 = false := by unfold inB; simp; omega
      have e224 : (z i == 224) = true := by simp; omega
      have e237 : (z i == 237) = false := by simp; omega
      have e238 : (z i == 238) = false := by simp; omega
      have e239 : (z i == 239) = false := by simp; omega
      have e240 : (z i == 240) = false := by simp; omega
      have e244 : (z i == 244) = false := by simp; omega
      clear HCL hx
      go_wp2_with (go_at_call 38; refine (in_any _ _ _ _).mono ?_; rintro e w' ⟨rfl, hw⟩; have hw2 := hw.symm; subst hw2; clear hw)
      go_meet
      case rel => exact ⟨rfl, rfl, rfl, rfl⟩
    · have ia : inB (z i) 194 223 = false := by unfold inB; simp; omega
      have ib : inB (z i) 225 236 = true := by unfold inB; simp; omega
      have ic : inB (z i) 241 243 = false := by unfold inB; simp; omega
      have e224 : (z i == 224) = false := by simp; omega
      have e237 : (z i == 237) = false := by simp; omega
      have e238 : (z i == 238) = false := by simp; omega
      have e239 : (z i == 239) = false := by simp; omega
      have e240 : (z i == 240) = false := by simp; omega
      have e244 : (z i == 244) = false := by simp; omega
      clear HCL hx
      go_wp2_with (go_at_call 38; refine (in_any _ _ _ _).mono ?_; rintro e w' ⟨rfl, hw⟩; have hw2 := hw.symm; subst hw2; clear hw)
      go_meet
      case rel => exact ⟨rfl, rfl, rfl, rfl⟩
    · have ia : inB (z i) 194 223 = false := by unfold inB; simp; omega
      have ib : inB (z i) 225 236 = false := by unfold inB; simp; omega
      have ic : inB (z i) 241 243 = false := by unfold inB; simp; omega
      have e224 : (z i == 224) = false := by simp; omega
      have e237 : (z i == 237) = false := by simp; omega
      have e238 : (z i == 238) = true := by simp; omega
      have e239 : (z i == 239) = false := by simp; omega
      have e240 : (z i == 240) = false := by simp; omega
      have e244 : (z i == 244) = false := by simp; omega
      clear HCL hx
      go_wp2_with (go_at_call 38; refine (in_any _ _ _ _).mono ?_; rintro e w' ⟨rfl, hw⟩; have hw2 := hw.symm; subst hw2; clear hw)
      go_meet
      case rel => exact ⟨rfl, rfl, rfl, rfl⟩
    · have ia : inB (z i) 194 223 = false := by unfold inB; simp; omega
      have ib : inB (z i) 225 236 = false := by unfold inB; simp; omega
      have ic : inB (z i) 241 243 = false := by unfold inB; simp; omega
      have e224 : (z i == 224) = false := by simp; omega
      have e237 : (z i == 237) = false := by simp; omega
      have e238 : (z i == 238) = false := by simp; omega
      have e239 : (z i == 239) = true := by simp; omega
      have e240 : (z i == 240) = false := by simp; omega
      have e244 : (z i == 244) = false := by simp; omega
      clear HCL hx
      go_wp2_with (go_at_call 38; refine (in_any _ _ _ _).mono ?_; rintro e w' ⟨rfl, hw⟩; have hw2 := hw.symm; subst hw2; clear hw)
      go_meet
      case rel => exact ⟨rfl, rfl, rfl, rfl⟩
    · have ia : inB (z i) 194 223 = false := by unfold inB; simp; omega
      have ib : inB (z i) 225 236 = false := by unfold inB; simp; omega
      have ic : inB (z i) 241 243 = false := by unfold inB; simp; omega
      have e224 : (z i == 224) = false := by simp; omega
      have e237 : (z i == 237) = true := by simp; omega
      have e238 : (z i == 238) = false := by simp; omega
      have e239 : (z i == 239) = false := by simp; omega
      have e240 : (z i == 240) = false := by simp; omega
      have e244 : (z i == 244) = false := by simp; omega
      clear HCL hx
      go_wp2_with (go_at_call 38; refine (in_any _ _ _ _).mono ?_; rintro e w' ⟨rfl, hw⟩; have hw2 := hw.symm; subst hw2; clear hw)
      go_meet
      case rel => exact ⟨rfl, rfl, rfl, rfl⟩
    · have ia : inB (z i) 194 223 = false := by unfold inB; simp; omega
      have ib : inB (z i) 225 236 = false := by unfold inB; simp; omega
      have ic : inB (z i) 241 243 = false := by unfold inB; simp; omega
      have e224 : (z i == 224) = false := by simp; omega
      have e237 : (z i == 237) = false := by simp; omega
      have e238 : (z i == 238) = false := by simp; omega
      have e239 : (z i == 239) = false := by simp; omega
      have e240 : (z i == 240) = true := by simp; omega
      have e244 : (z i == 244) = false := by simp; omega
      clear HCL hx
      go_wp2_with (go_at_call 38; refine (in_any _ _ _ _).mono ?_; rintro e w' ⟨rfl, hw⟩; have hw2 := hw.symm; subst hw2; clear hw)
      go_meet
      case rel => exact ⟨rfl, rfl, rfl, rfl⟩
    · have ia : inB (z i) 194 223 = false := by unfold inB; simp; omega
      have ib : inB (z i) 225 236 = false := by unfold inB; simp; omega
      have ic : inB (z i) 241 243 = true := by unfold inB; simp; omega
      have e224 : (z i == 224) = false := by simp; omega
      have e237 : (z i == 237) = false := by simp; omega
      have e238 : (z i == 238) = false := by simp; omega
      have e239 : (z i == 239) = false := by simp; omega
      have e240 : (z i == 240) = false := by simp; omega
      have e244 : (z i == 244) = false := by simp; omega
      clear HCL hx
      go_wp2_with (go_at_call 38; refine (in_any _ _ _ _).mono ?_; rintro e w' ⟨rfl, hw⟩; have hw2 := hw.symm; subst hw2; clear hw)
      go_meet
      case rel => exact ⟨rfl, rfl, rfl, rfl⟩
    · have ia : inB (z i) 194 223 = false := by unfold inB; simp; omega
      have ib : inB (z i) 225 236 = false := by unfold inB; simp; omega
      have ic : inB (z i) 241 243 = false := by unfold inB; simp; omega
      have e224 : (z i == 224) = false := by simp; omega
      have e237 : (z i == 237) = false := by simp; omega
      have e238 : (z i == 238) = false := by simp; omega
      have e239 : (z i == 239) = false := by simp; omega
      have e240 : (z i == 240) = false := by simp; omega
      have e244 : (z i == 244) = true := by simp; omega
      clear HCL hx
      go_wp2_with (go_at_call 38; refine (in_any _ _ _ _).mono ?_; rintro e w' ⟨rfl, hw⟩; have hw2 := hw.symm; subst hw2; clear hw)
      go_meet
      case rel => exact ⟨rfl, rfl, rfl, rfl⟩
  case rest =>
    obtain ⟨rfl, rfl, rfl, hw⟩ := hcut
    have hw2 := hw.symm
    subst hw2
    clear hw HCL
    by_cases hnk : n - i < k
    · have hR := HR.out
      rw [if_pos hnk] at hR
      subst hR
      clear HR
      go_wp2
      go_ret
      exact ⟨rfl, rfl⟩
    · have c1 := HC.out (i + 1) (by omega)
      have z1 := HZ.out (i + 1)
      by_cases h1 : lo ≤ z (i + 1) ∧ z (i + 1) ≤ hi
      · have i1 : inB (z (i + 1)) lo hi = true := by unfold inB; simpa using h1
        have HR2 : Hid (R = if 3 ≤ k ∧ ¬ (128 ≤ z (i + 2) ∧ z (i + 2) ≤ 191) then 0 else if 4 ≤ k ∧ ¬ (128 ≤ z (i + 3) ∧ z (i + 3) ≤ 191) then 0 else k) := by
          have hR := HR.out
          rw [if_neg hnk, if_neg (fun h => h h1)] at hR
          exact hR
        clear HR h1
        go_wp2_with (go_at_call 38; refine (in_any _ _ _ _).mono ?_; rintro e w' ⟨rfl, hw⟩; have hw2 := hw.symm; subst hw2; clear hw)
        go_loop [10] (fun vj => ∃ j : Nat, vj = .int .i64 j ∧ 2 ≤ j ∧ j ≤ k ∧ Hid (∀ t, 2 ≤ t → t < j → 128 ≤ z (i + t) ∧ z (i + t) ≤ 191)) (fun vj => k - (intOf vj).toNat)
        case atStart => exact ⟨2, rfl, by omega, by omega, fun t a b => by omega⟩
        case round =>
          obtain ⟨j, rfl, hj2, hjk, HJ⟩ := hrel
          by_cases hjl : j < k
          · have cj := HC.out (i + j) (by omega)
            have zj := HZ.out (i + j)
            by_cases h2 : 128 ≤ z (i + j) ∧ z (i + j) ≤ 191
            · have i2 : inB (z (i + j)) 128 191 = true := by unfold inB; simpa using h2
              have HJ2 : Hid (∀ t, 2 ≤ t → t < j + 1 → 128 ≤ z (i + t) ∧ z (i + t) ≤ 191) := by
                intro t a b
                by_cases e : t = j
                · subst e; exact h2
                · exact HJ.out t a (by omega)
              clear h2 HJ
              go_wp2_with (go_at_call 38; refine (in_any _ _ _ _).mono ?_; rintro e w' ⟨rfl, hw⟩; have hw2 := hw.symm; subst hw2; clear hw)
              go_round
              case rel => exact ⟨j + 1, by go_num, by omega, by omega, HJ2⟩
              case measure => simp [intOf]; omega
            · have i2 : inB (z (i + j)) 128 191 = false := by unfold inB; simpa using h2
              have hR : R = 0 := by
                rw [HR2.out]
                by_cases e : j = 2
                · subst e; rw [if_pos ⟨by omega, h2⟩]
                · have e3 : j = 3 := by omega
                  subst e3
                  rw [if_neg (fun h => h.2 (HJ.out 2 (by omega) (by omega))), if_pos ⟨by omega, h2⟩]
              subst hR
              clear h2 HJ HR2
              go_wp2_with (go_at_call 38; refine (in_any _ _ _ _).mono ?_; rintro e w' ⟨rfl, hw⟩; have hw2 := hw.symm; subst hw2; clear hw)
              go_ret
              exact ⟨rfl, rfl⟩
          · have hR : R = k := by
              rw [HR2.out, if_neg (fun h => h.2 (HJ.out 2 (by omega) (by omega))), if_neg (fun h => h.2 (HJ.out 3 (by omega) (by omega)))]
            subst hR
            clear HR2
            go_wp2
            go_ret
            exact ⟨rfl, rfl⟩
      · have i1 : inB (z (i + 1)) lo hi = false := by unfold inB; simpa using h1
        have hR := HR.out
        rw [if_neg hnk, if_pos h1] at hR
        subst hR
        clear HR h1
        go_wp2_with (go_at_call 38; refine (in_any _ _ _ _).mono ?_; rintro e w' ⟨rfl, hw⟩; have hw2 := hw.symm; subst hw2; clear hw)
        go_ret
        exact ⟨rfl, rfl⟩

set_option maxHeartbeats 1000000 in
theorem seq_one (b n cap i : Nat) (x : Int) (w : World) (hn : n ≤ 4194304) (hin : i < n) (hc : w.cell? ⟨b, i, none⟩ = some (.int .u8 x)) (hx : x < 128) :
    Calls Try.prog 32 #[.slice (some ⟨b, 0, none⟩) n cap, .int .i64 i] w fun e w' => e = .returned (.int .i64 1) ∧ w' = w := by
  have d : decide (x < 128) = true := by simpa using hx
  go_enter Try.func32, Try.ntmps32
  go_wp2
  go_ret
  exact ⟨rfl, rfl⟩

set_option maxHeartbeats 1000000 in
theorem seq_bad (b n cap i : Nat) (x : Int) (w : World) (hn : n ≤ 4194304) (hin : i < n) (hc : w.cell? ⟨b, i, none⟩ = some (.int .u8 x)) (h128 : 128 ≤ x) (hx : x < 194 ∨ 244 < x) :
    Calls Try.prog 32 #[.slice (some ⟨b, 0, none⟩) n cap, .int .i64 i] w fun e w' => e = .returned (.int .i64 0) ∧ w' = w := by
  have d : decide (x < 128) = false := by simp; omega
  have ia : inB x 194 223 = false := by unfold inB; simp; omega
  have ib : inB x 225 236 = false := by unfold inB; simp; omega
  have ic : inB x 241 243 = false := by unfold inB; simp; omega
  have e224 : (x == 224) = false := by simp; omega
  have e237 : (x == 237) = false := by simp; omega
  have e238 : (x == 238) = false := by simp; omega
  have e239 : (x == 239) = false := by simp; omega
  have e240 : (x == 240) = false := by simp; omega
  have e244 : (x == 244) = false := by simp; omega
  clear hx
  go_enter Try.func32, Try.ntmps32
  go_wp2_with (go_at_call 38; refine (in_any _ _ _ _).mono ?_; rintro e w' ⟨rfl, hw⟩; have hw2 := hw.symm; subst hw2; clear hw)
  go_ret
  exact ⟨rfl, rfl⟩

/-- zzSeqLen, over a list's bytes. -/
theorem seq_any (b cap i : Nat) (l : List UInt8) (w : World) (hn : l.length ≤ 4194304) (hin : i < l.length) (hc : ∀ j, j < l.length → w.cell? ⟨b, j, none⟩ = some (.int .u8 (bt l j))) :
    Calls Try.prog 32 #[.slice (some ⟨b, 0, none⟩) l.length cap, .int .i64 i] w fun e w' => e = .returned (.int .i64 (seqAt l i)) ∧ w' = w := by
  by_cases h : bt l i < 128
  · have e : seqAt l i = 1 := by unfold seqAt seqI; rw [if_pos h]
    rw [e]
    exact seq_one b l.length cap i (bt l i) w hn hin (hc i hin) h
  · by_cases h0 : (clsB (bt l i)).1 = 0
    · have e : seqAt l i = 0 := by unfold seqAt seqI; rw [if_neg h, if_pos h0]
      rw [e]
      refine seq_bad b l.length cap i (bt l i) w hn hin (hc i hin) (by omega) ?_
      rcases clsB_cases (bt l i) with ⟨_, e⟩ | ⟨_, e⟩ | ⟨_, e⟩ | ⟨_, e⟩ | ⟨_, e⟩ | ⟨_, e⟩ | ⟨_, e⟩ | ⟨h1, _⟩
      case inr.inr.inr.inr.inr.inr.inr => exact h1
      all_goals (rw [e] at h0; simp at h0)
    · refine seq_cls b l.length cap i (bt l) w hn hin hc (bt_range l) (by omega) _ _ _ (hide (clsIs (bt l i) h0)) ?_ (seqAt l i) (hide ?_)
      · rcases clsB_cases (bt l i) with ⟨_, e⟩ | ⟨_, e⟩ | ⟨_, e⟩ | ⟨_, e⟩ | ⟨_, e⟩ | ⟨_, e⟩ | ⟨_, e⟩ | ⟨_, e⟩
        case inr.inr.inr.inr.inr.inr.inr => rw [e] at h0; simp at h0
        all_goals (rw [e]; simp)
      · unfold seqAt seqI
        rw [if_neg h, if_neg h0]

theorem seqAt_le (l : List UInt8) (i : Nat) (hi : i < l.length) : seqAt l i ≤ l.length - i := by
  have hne : l.drop i ≠ [] := by intro e; have := congrArg List.length e; rw [List.length_drop] at this; simp at this; omega
  rw [seqAt_drop]
  have hl : (l.drop i).length = l.length - i := List.length_drop
  rcases seq_decL (l.drop i) hne with ⟨_, b, _⟩ | ⟨_, b, _⟩ | ⟨_, _, c, _⟩
  · omega
  · omega
  · omega

theorem wfL_succ (f : Nat) (l : List UInt8) : wfL (f + 1) l = if l = [] then true else if seqAt l 0 = 0 then false else wfL f (l.drop (seqAt l 0)) := rfl

/-- zzWellFormed. -/
def WfPost (l : List UInt8) (w : World) (e : Ending) (w' : World) : Prop := ∃ f, l.length ≤ f ∧ e = .returned (.bool (wfL f l)) ∧ w' = w

set_option maxHeartbeats 1000000 in
theorem wf_any (b cap : Nat) (l : List UInt8) (w : World) (hn : l.length ≤ 4194304) (hc : ∀ j, j < l.length → w.cell? ⟨b, j, none⟩ = some (.int .u8 (bt l j))) :
    Calls Try.prog 22 #[.slice (some ⟨b, 0, none⟩) l.length cap] w fun e w' => WfPost l w e w' := by
  have HC := hide hc
  clear hc
  go_enter Try.func22, Try.ntmps22
  go_wp2
  go_loop [3] (fun vi => ∃ i f : Nat, vi = .int .i64 i ∧ i ≤ l.length ∧ l.length ≤ i + f ∧ Hid (wfL f (l.drop i) = wfL l.length l)) (fun vi => l.length - (intOf vi).toNat)
  case atStart => exact ⟨0, l.length, rfl, Nat.zero_le _, by omega, rfl⟩
  case round =>
    obtain ⟨i, f, rfl, hi, hf, HW⟩ := hrel
    by_cases hlt : i < l.length
    · have HS := hide (fun W h => seq_any b cap i l W hn hlt h)
      have hle := seqAt_le l i hlt
      have hne : l.drop i ≠ [] := by intro e; have := congrArg List.length e; rw [List.length_drop] at this; simp at this; omega
      obtain ⟨f, rfl⟩ : ∃ f', f = f' + 1 := ⟨f - 1, by omega⟩
      have hw := HW.out
      rw [wfL_succ, if_neg hne, ← seqAt_drop] at hw
      obtain ⟨k, hk⟩ : ∃ k, seqAt l i = k := ⟨_, rfl⟩
      rw [hk] at HS hw hle
      clear HW hne hk
      by_cases hk0 : k = 0
      · subst hk0
        rw [if_pos rfl] at hw
        have HF := hide hw
        clear hw
        go_wp2_with (go_at_call 32; refine (HS.out _ HC.out).mono ?_; rintro e w' ⟨rfl, hw⟩; have hw2 := hw.symm; subst hw2; clear hw)
        go_ret
        exact ⟨l.length, Nat.le_refl _, by rw [← HF.out]; rfl, rfl⟩
      · rw [if_neg hk0, List.drop_drop] at hw
        have HF := hide hw
        have k0 : ((k : Int) == 0) = false := by simp; omega
        have kp : 0 < k := by omega
        clear hw hk0
        go_wp2_with (go_at_call 32; refine (HS.out _ HC.out).mono ?_; rintro e w' ⟨rfl, hw⟩; have hw2 := hw.symm; subst hw2; clear hw)
        go_round
        case rel => exact ⟨i + k, f, by go_num, by omega, by omega, HF⟩
        case measure => simp [intOf]; omega
    · have hw := HW.out
      rw [List.drop_eq_nil_of_le (by omega)] at hw
      have e : wfL f [] = true := by cases f <;> rfl
      rw [e] at hw
      have HF := hide hw
      clear hw HW e
      go_wp2
      go_ret
      exact ⟨l.length, Nat.le_refl _, by rw [← HF.out]; rfl, rfl⟩

end Go.Proofs.Qxb6601896a
