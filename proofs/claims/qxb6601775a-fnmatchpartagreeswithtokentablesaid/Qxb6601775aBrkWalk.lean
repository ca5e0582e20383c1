/- The walk of matchBracket. -/
import Derived.Test.Qxb6601775aBrk
import Derived.Deep.Cut
import Derived.Deep.CutRange
namespace Go.Proofs.Qxb6601775a
open Go.RowKit Glob
set_option linter.unusedVariables false

theorem wrap64_byte (u : UInt8) : wrap64 (u.toNat : Int) = (u.toNat : Int) := by
  have := u.toNat_lt
  unfold wrap64
  omega

theorem cls26 (s : ByteArray) (p : Nat) (w : World) :
    Calls Try.prog 26 #[.string (s.extract (p + 2) s.size), .int .u8 93] w fun e w' => e = .returned (.int .i64 (clsEnd s p)) ∧ w' = w :=
  idx26 _ 93 w

theorem bfalse {a b : Int} (h : a ≠ b) : (a == b) = false := by simpa using h

set_option maxHeartbeats 4000000 in
set_option maxRecDepth 100000 in
theorem bracket_core (s : ByteArray) (p0 : Nat) (c : Int) (w : World) (hs : s.size ≤ 1048576) (hp0 : p0 ≤ s.size) (h0 : 0 ≤ c) (h255 : c ≤ 255)
    (neg : Bool) (pst : Nat) (hpst : pst ≤ s.size) (R0 : Option (Nat × (Int → Bool))) (HR0 : Hid (brk s neg (s.size + 1) pst true (-1) (fun _ => false) = R0))
    (HN : Hid (negAt s p0 = neg)) (HP : Hid (pst = if neg then p0 + 1 else p0)) :
    Calls Try.prog 23 #[.string s, .int .i64 p0, .int .u8 c] w fun e w' => w' = w ∧ e = .returned (ans R0 c) := by
  go_enter Try.func23, Try.ntmps23
  go_upto_region 1 with fail
  go_cut [9] from 19 to 37 (fun v9 wc => v9 = .bool neg ∧ wc = w)
  case first =>
    by_cases hp : p0 < s.size
    · by_cases h33 : byteAt s p0 = 33
      · have hn := HN.out
        have e : negAt s p0 = true := by unfold negAt; simp [hp, h33]
        rw [e] at hn
        subst hn
        have b33 : (((s[p0]'hp).toNat : Int) == 33) = true := by rw [byteAt_eq, h33]; rfl
        clear h33 e
        go_wp2
        go_meet
        case rel => exact ⟨rfl, rfl⟩
      · have b33 : (((s[p0]'hp).toNat : Int) == 33) = false := by rw [byteAt_eq]; exact bfalse h33
        by_cases h94 : byteAt s p0 = 94
        · have hn := HN.out
          have e : negAt s p0 = true := by unfold negAt; simp [hp, h94]
          rw [e] at hn
          subst hn
          have b94 : (((s[p0]'hp).toNat : Int) == 94) = true := by rw [byteAt_eq, h94]; rfl
          clear h33 h94 e
          go_wp2
          go_meet
          case rel => exact ⟨rfl, rfl⟩
        · have hn := HN.out
          have e : negAt s p0 = false := by unfold negAt; simp [h33, h94]
          rw [e] at hn
          subst hn
          have b94 : (((s[p0]'hp).toNat : Int) == 94) = false := by rw [byteAt_eq]; exact bfalse h94
          clear h33 h94 e
          go_wp2
          go_meet
          case rel => exact ⟨rfl, rfl⟩
    · have hn := HN.out
      have e : negAt s p0 = false := by unfold negAt; simp [hp]
      rw [e] at hn
      subst hn
      clear e
      go_wp2
      go_meet
      case rel => exact ⟨rfl, rfl⟩
  case rest =>
    obtain ⟨rfl, hw⟩ := hcut
    have hw2 := hw.symm
    subst hw2
    clear hw HN
    go_upto_if 35 with fail
    go_cut [1] from 19 to 37 (fun v1 wc => v1 = .int .i64 pst ∧ wc = w)
    case first =>
      have hp := HP.out
      cases neg
      · simp only [Bool.false_eq_true, if_false] at hp
        subst hp
        clear HP HR0
        go_wp2
        go_meet
        case rel => exact ⟨rfl, rfl⟩
      · simp only [if_true] at hp
        subst hp
        clear HP HR0
        go_wp2
        go_meet
        case rel => exact ⟨by go_num, rfl⟩
    case rest =>
      obtain ⟨rfl, hw⟩ := hcut
      have hw2 := hw.symm
      subst hw2
      clear hw HP
      go_wp2_with fail
      go_loop [1, 7, 10, 11] (fun vp vm vl vf => ∃ (p f : Nat) (low : Int) (first mb : Bool) (ms : Int → Bool), vp = .int .i64 p ∧ vm = .bool mb ∧ vl = .int .i64 low ∧ vf = .bool first ∧
          p ≤ s.size ∧ s.size < p + f ∧ Hid (ms c = mb) ∧ Hid (brk s neg f p first low ms = R0)) (fun vp _ _ _ => s.size - (intOf vp).toNat)
      case atStart => exact ⟨pst, s.size + 1, -1, true, false, fun _ => false, rfl, rfl, rfl, rfl, hpst, by omega, rfl, HR0⟩
      case round =>
        obtain ⟨p, f, low, first, mb, ms, rfl, rfl, rfl, rfl, hp, hf, HM, HB⟩ := hrel
        obtain ⟨f, rfl⟩ : ∃ f', f = f' + 1 := ⟨f - 1, by omega⟩
        clear HR0
        by_cases hps : p < s.size
        · have HX : Hid True := trivial
          by_cases hv : byteAt s p = 92
          · have b93 : (((s[p]'hps).toNat : Int) == 93) = false := by rw [byteAt_eq, hv]; rfl
            have b92 : (((s[p]'hps).toNat : Int) == 92) = true := by rw [byteAt_eq, hv]; rfl
            have b45 : (((s[p]'hps).toNat : Int) == 45) = false := by rw [byteAt_eq, hv]; rfl
            have b91 : (((s[p]'hps).toNat : Int) == 91) = false := by rw [byteAt_eq, hv]; rfl
            by_cases hp1 : p + 1 < s.size
            · have HB2 := hide (next_ok HB.out (stp_esc hps hv hp1))
              have ne : ((p : Int) + 1 == (s.size : Int)) = false := by simp; omega
              clear HB hv
              cases mb
              · as_aux_lemma =>
                  go_wp2
                  go_round
                  case rel => exact ⟨p + 2, f, _, false, _, _, by go_num, rfl, by rw [← byteAt_eq s (p + 1) hp1, wrap64_byte], rfl, by omega, by omega, by show (ms c || byteAt s (p + 1) == c) = _; rw [HM.out, ← byteAt_eq s (p + 1) hp1]; rfl, HB2⟩
                  case measure => simp [intOf]; omega
              · as_aux_lemma =>
                  go_wp2
                  go_round
                  case rel => exact ⟨p + 2, f, _, false, _, _, by go_num, rfl, by rw [← byteAt_eq s (p + 1) hp1, wrap64_byte], rfl, by omega, by omega, by show (ms c || byteAt s (p + 1) == c) = _; rw [HM.out]; rfl, HB2⟩
                  case measure => simp [intOf]; omega
            · have ne : ((p : Int) + 1 == (s.size : Int)) = true := by simp; omega
              have hR := done_ok HB.out (stp_esc_end hps hv (by omega))
              subst hR
              clear HB HX hv
              as_aux_lemma =>
                go_wp2
                go_ret3
                exact ⟨rfl, rfl⟩
          · by_cases hv3 : byteAt s p = 93
            · have hv := hv3
              have b93 : (((s[p]'hps).toNat : Int) == 93) = true := by rw [byteAt_eq, hv]; rfl
              have b92 : (((s[p]'hps).toNat : Int) == 92) = false := by rw [byteAt_eq, hv]; rfl
              have b45 : (((s[p]'hps).toNat : Int) == 45) = false := by rw [byteAt_eq, hv]; rfl
              have b91 : (((s[p]'hps).toNat : Int) == 91) = false := by rw [byteAt_eq, hv]; rfl
              cases first
              · have hR := done_ok HB.out (stp_close hps hv3 rfl)
                subst hR
                clear HB HX hv hv3
                as_aux_lemma =>
                  go_wp2
                  go_ret3
                  exact ⟨rfl, by show Ending.returned (.tuple #[.int .i64 ((p : Int) + 1), .bool (mb != neg), .bool true]) = .returned (.tuple #[.int .i64 ((p + 1 : Nat) : Int), .bool (ms c != neg), .bool true]); rw [HM.out, Int.natCast_add]; rfl⟩
              · have HB2 := hide (next_ok HB.out (stp_lit hps (fun _ => rfl) (by omega) (fun h => by omega) (fun h => by omega)))
                clear HB HX hv hv3
                cases mb
                · as_aux_lemma =>
                    go_wp2
                    go_round
                    case rel => exact ⟨p + 1, f, _, false, _, _, by go_num, rfl, by rw [← byteAt_eq s p hps, wrap64_byte], rfl, by omega, by omega, by show (ms c || byteAt s p == c) = _; rw [HM.out, ← byteAt_eq s p hps]; rfl, HB2⟩
                    case measure => simp [intOf]; omega
                · as_aux_lemma =>
                    go_wp2
                    go_round
                    case rel => exact ⟨p + 1, f, _, false, _, _, by go_num, rfl, by rw [← byteAt_eq s p hps, wrap64_byte], rfl, by omega, by omega, by show (ms c || byteAt s p == c) = _; rw [HM.out]; rfl, HB2⟩
                    case measure => simp [intOf]; omega
            · by_cases hv4 : byteAt s p = 45
              · have hv := hv4
                have b93 : (((s[p]'hps).toNat : Int) == 93) = false := by rw [byteAt_eq, hv]; rfl
                have b92 : (((s[p]'hps).toNat : Int) == 92) = false := by rw [byteAt_eq, hv]; rfl
                have b45 : (((s[p]'hps).toNat : Int) == 45) = true := by rw [byteAt_eq, hv]; rfl
                have b91 : (((s[p]'hps).toNat : Int) == 91) = false := by rw [byteAt_eq, hv]; rfl
                by_cases hl : 0 ≤ low
                · have l0 : decide ((0 : Int) ≤ low) = true := by simpa using hl
                  by_cases hp1 : p + 1 < s.size
                  · by_cases hn3 : byteAt s (p + 1) = 93
                    · have n93 : (((s[p + 1]'hp1).toNat : Int) != 93) = false := by rw [byteAt_eq, hn3]; rfl
                      have HB2 := hide (next_ok HB.out (stp_lit hps (fun h => by omega) (by omega) (fun _ => Or.inr (Or.inr hn3)) (fun h => by omega)))
                      clear HB HX hv hv4 hn3
                      cases mb
                      · as_aux_lemma =>
                          go_wp2
                          go_round
                          case rel => exact ⟨p + 1, f, _, false, _, _, by go_num, rfl, by rw [← byteAt_eq s p hps, wrap64_byte], rfl, by omega, by omega, by show (ms c || byteAt s p == c) = _; rw [HM.out, ← byteAt_eq s p hps]; rfl, HB2⟩
                          case measure => simp [intOf]; omega
                      · as_aux_lemma =>
                          go_wp2
                          go_round
                          case rel => exact ⟨p + 1, f, _, false, _, _, by go_num, rfl, by rw [← byteAt_eq s p hps, wrap64_byte], rfl, by omega, by omega, by show (ms c || byteAt s p == c) = _; rw [HM.out]; rfl, HB2⟩
                          case measure => simp [intOf]; omega
                    · have n93 : (((s[p + 1]'hp1).toNat : Int) != 93) = true := by rw [byteAt_eq]; simpa using hn3
                      by_cases hn2 : byteAt s (p + 1) = 92
                      · have n92 : (((s[p + 1]'hp1).toNat : Int) == 92) = true := by rw [byteAt_eq, hn2]; rfl
                        by_cases hp2 : p + 2 < s.size
                        · have ne : ((p : Int) + 1 + 1 == (s.size : Int)) = false := by simp; omega
                          have HB2 := hide (next_ok HB.out (stp_rng_esc hps hv4 hl hp1 hn2 hp2))
                          clear HB HX hv hv4 hn2 hn3
                          cases mb
                          · by_cases hlc : low ≤ c
                            · have lc : decide (low ≤ c) = true := by simpa using hlc
                              as_aux_lemma =>
                                go_wp2
                                go_round
                                case rel => exact ⟨p + 3, f, _, false, _, _, by go_num, rfl, rfl, rfl, by omega, by omega, by show (ms c || (decide (low ≤ c) && decide (c ≤ byteAt s (p + 2)))) = _; rw [HM.out, lc, ← byteAt_eq s (p + 2) hp2]; rfl, HB2⟩
                                case measure => simp [intOf]; omega
                            · have lc : decide (low ≤ c) = false := by simpa using hlc
                              as_aux_lemma =>
                                go_wp2
                                go_round
                                case rel => exact ⟨p + 3, f, _, false, _, _, by go_num, rfl, rfl, rfl, by omega, by omega, by show (ms c || (decide (low ≤ c) && decide (c ≤ byteAt s (p + 2)))) = _; rw [HM.out, lc]; rfl, HB2⟩
                                case measure => simp [intOf]; omega
                          · as_aux_lemma =>
                              go_wp2
                              go_round
                              case rel => exact ⟨p + 3, f, _, false, _, _, by go_num, rfl, rfl, rfl, by omega, by omega, by show (ms c || (decide (low ≤ c) && decide (c ≤ byteAt s (p + 2)))) = _; rw [HM.out]; rfl, HB2⟩
                              case measure => simp [intOf]; omega
                        · have ne : ((p : Int) + 1 + 1 == (s.size : Int)) = true := by simp; omega
                          have hR := done_ok HB.out (stp_rng_esc_end hps hv4 hl hp1 hn2 (by omega))
                          subst hR
                          clear HB HX hv hv4 hn2 hn3
                          as_aux_lemma =>
                            go_wp2
                            go_ret3
                            exact ⟨rfl, rfl⟩
                      · have n92 : (((s[p + 1]'hp1).toNat : Int) == 92) = false := by rw [byteAt_eq]; exact bfalse hn2
                        have HB2 := hide (next_ok HB.out (stp_rng hps hv4 hl hp1 hn2 hn3))
                        clear HB HX hv hv4 hn2 hn3
                        cases mb
                        · by_cases hlc : low ≤ c
                          · have lc : decide (low ≤ c) = true := by simpa using hlc
                            as_aux_lemma =>
                              go_wp2
                              go_round
                              case rel => exact ⟨p + 2, f, _, false, _, _, by go_num, rfl, rfl, rfl, by omega, by omega, by show (ms c || (decide (low ≤ c) && decide (c ≤ byteAt s (p + 1)))) = _; rw [HM.out, lc, ← byteAt_eq s (p + 1) hp1]; rfl, HB2⟩
                              case measure => simp [intOf]; omega
                          · have lc : decide (low ≤ c) = false := by simpa using hlc
                            as_aux_lemma =>
                              go_wp2
                              go_round
                              case rel => exact ⟨p + 2, f, _, false, _, _, by go_num, rfl, rfl, rfl, by omega, by omega, by show (ms c || (decide (low ≤ c) && decide (c ≤ byteAt s (p + 1)))) = _; rw [HM.out, lc]; rfl, HB2⟩
                              case measure => simp [intOf]; omega
                        · as_aux_lemma =>
                            go_wp2
                            go_round
                            case rel => exact ⟨p + 2, f, _, false, _, _, by go_num, rfl, rfl, rfl, by omega, by omega, by show (ms c || (decide (low ≤ c) && decide (c ≤ byteAt s (p + 1)))) = _; rw [HM.out]; rfl, HB2⟩
                            case measure => simp [intOf]; omega
                  · have HB2 := hide (next_ok HB.out (stp_lit hps (fun h => by omega) (by omega) (fun _ => Or.inr (Or.inl (by omega))) (fun h => by omega)))
                    clear HB HX hv hv4
                    cases mb
                    · as_aux_lemma =>
                        go_wp2
                        go_round
                        case rel => exact ⟨p + 1, f, _, false, _, _, by go_num, rfl, by rw [← byteAt_eq s p hps, wrap64_byte], rfl, by omega, by omega, by show (ms c || byteAt s p == c) = _; rw [HM.out, ← byteAt_eq s p hps]; rfl, HB2⟩
                        case measure => simp [intOf]; omega
                    · as_aux_lemma =>
                        go_wp2
                        go_round
                        case rel => exact ⟨p + 1, f, _, false, _, _, by go_num, rfl, by rw [← byteAt_eq s p hps, wrap64_byte], rfl, by omega, by omega, by show (ms c || byteAt s p == c) = _; rw [HM.out]; rfl, HB2⟩
                        case measure => simp [intOf]; omega
                · have l0 : decide ((0 : Int) ≤ low) = false := by simpa using hl
                  have HB2 := hide (next_ok HB.out (stp_lit hps (fun h => by omega) (by omega) (fun _ => Or.inl (by omega)) (fun h => by omega)))
                  clear HB HX hv hv4
                  cases mb
                  · as_aux_lemma =>
                      go_wp2
                      go_round
                      case rel => exact ⟨p + 1, f, _, false, _, _, by go_num, rfl, by rw [← byteAt_eq s p hps, wrap64_byte], rfl, by omega, by omega, by show (ms c || byteAt s p == c) = _; rw [HM.out, ← byteAt_eq s p hps]; rfl, HB2⟩
                      case measure => simp [intOf]; omega
                  · as_aux_lemma =>
                      go_wp2
                      go_round
                      case rel => exact ⟨p + 1, f, _, false, _, _, by go_num, rfl, by rw [← byteAt_eq s p hps, wrap64_byte], rfl, by omega, by omega, by show (ms c || byteAt s p == c) = _; rw [HM.out]; rfl, HB2⟩
                      case measure => simp [intOf]; omega
              · by_cases hv5 : byteAt s p = 91
                · have hv := hv5
                  have b93 : (((s[p]'hps).toNat : Int) == 93) = false := by rw [byteAt_eq, hv]; rfl
                  have b92 : (((s[p]'hps).toNat : Int) == 92) = false := by rw [byteAt_eq, hv]; rfl
                  have b45 : (((s[p]'hps).toNat : Int) == 45) = false := by rw [byteAt_eq, hv]; rfl
                  have b91 : (((s[p]'hps).toNat : Int) == 91) = true := by rw [byteAt_eq, hv]; rfl
                  by_cases hp1 : p + 1 < s.size
                  · by_cases hn8 : byteAt s (p + 1) = 58
                    · have n58 : (((s[p + 1]'hp1).toNat : Int) == 58) = true := by rw [byteAt_eq, hn8]; rfl
                      have H26 := hide (fun W => cls26 s p W)
                      by_cases hE : clsEnd s p < 0
                      · have hR := done_ok HB.out (stp_cls_open hps hv5 hp1 hn8 hE)
                        subst hR
                        obtain ⟨E, hE2⟩ : ∃ E, clsEnd s p = E := ⟨_, rfl⟩
                        rw [hE2] at hE H26
                        clear HB HX hv hv5 hn8 hE2
                        as_aux_lemma =>
                          go_wp2_with (go_at_call 26; refine (H26.out _).mono ?_; rintro e w' ⟨rfl, hw⟩; have hw2 := hw.symm; subst hw2; clear hw)
                          go_ret3
                          exact ⟨rfl, rfl⟩
                      · have hEl := clsEnd_lt s p (by omega)
                        obtain ⟨k, hk⟩ := Int.eq_ofNat_of_zero_le (show 0 ≤ clsEnd s p by omega)
                        have hX : clsText s p = s.extract (p + 2) (p + 2 + k) := by unfold clsText; rw [hk]; rfl
                        rw [hk] at hEl H26
                        simp only [Int.toNat_natCast] at hEl
                        have hXs : (s.extract (p + 2) (p + 2 + k)).size ≤ 1048576 := by simp; omega
                        have H27 := hide (fun W => cut27 (s.extract (p + 2) (p + 2 + k)) W hXs)
                        obtain ⟨hc, hhc⟩ : ∃ b, hasColon (s.extract (p + 2) (p + 2 + k)) = b := ⟨_, rfl⟩
                        obtain ⟨nm, hnm⟩ : ∃ b, cutName (s.extract (p + 2) (p + 2 + k)) = b := ⟨_, rfl⟩
                        rw [hhc, hnm] at H27
                        cases hc
                        · have HB2 := hide (next_ok HB.out (stp_cls_lit hps hv5 hp1 hn8 (by omega) (by rw [hX]; exact hhc)))
                          clear HB HX hv hv5 hn8 hE hk hX hXs hhc hnm
                          cases mb
                          · as_aux_lemma =>
                              go_wp2_with (first | (go_at_call 26; refine (H26.out _).mono ?_; rintro e w' ⟨rfl, hw⟩; have hw2 := hw.symm; subst hw2; clear hw) | (go_at_call 27; refine (H27.out _).mono ?_; rintro e w' ⟨rfl, hw⟩; have hw2 := hw.symm; subst hw2; clear hw))
                              go_round
                              case rel => exact ⟨p + 1, f, _, false, _, _, by go_num, rfl, rfl, rfl, by omega, by omega, by show (ms c || c == 91) = _; rw [HM.out]; rfl, HB2⟩
                              case measure => simp [intOf]; omega
                          · as_aux_lemma =>
                              go_wp2_with (first | (go_at_call 26; refine (H26.out _).mono ?_; rintro e w' ⟨rfl, hw⟩; have hw2 := hw.symm; subst hw2; clear hw) | (go_at_call 27; refine (H27.out _).mono ?_; rintro e w' ⟨rfl, hw⟩; have hw2 := hw.symm; subst hw2; clear hw))
                              go_round
                              case rel => exact ⟨p + 1, f, _, false, _, _, by go_num, rfl, rfl, rfl, by omega, by omega, by show (ms c || c == 91) = _; rw [HM.out]; rfl, HB2⟩
                              case measure => simp [intOf]; omega
                        · have H21 := hide (fun W => class_any nm c W h0 h255)
                          cases ho : clsOf nm.toList with
                          | none =>
                            have hR := done_ok HB.out (stp_cls_unknown hps hv5 hp1 hn8 (by omega) (by rw [hX]; exact hhc) (by rw [hX, hnm]; exact ho))
                            subst hR
                            rw [ho] at H21
                            simp only [clsAns] at H21
                            clear HB HX hv hv5 hn8 hE hk hX hXs hhc hnm ho
                            as_aux_lemma =>
                              go_wp2_with (first | (go_at_call 26; refine (H26.out _).mono ?_; rintro e w' ⟨rfl, hw⟩; have hw2 := hw.symm; subst hw2; clear hw) | (go_at_call 27; refine (H27.out _).mono ?_; rintro e w' ⟨rfl, hw⟩; have hw2 := hw.symm; subst hw2; clear hw) | (go_at_call 21; refine (H21.out _).mono ?_; rintro e w' ⟨rfl, hw⟩; have hw2 := hw.symm; subst hw2; clear hw))
                              go_ret3
                              exact ⟨rfl, rfl⟩
                          | some g =>
                            have HB2 := hide (next_ok HB.out (stp_cls hps hv5 hp1 hn8 (by omega) (by rw [hX]; exact hhc) (by rw [hX, hnm]; exact ho)))
                            rw [hk] at HB2
                            simp only [Int.toNat_natCast] at HB2
                            rw [ho] at H21
                            simp only [clsAns] at H21
                            obtain ⟨gb, hgb⟩ : ∃ b, g c = b := ⟨_, rfl⟩
                            rw [hgb] at H21
                            have HG := hide hgb
                            clear HB HX hv hv5 hn8 hE hk hX hXs hhc hnm ho hgb
                            cases mb
                            · as_aux_lemma =>
                                go_wp2_with (first | (go_at_call 26; refine (H26.out _).mono ?_; rintro e w' ⟨rfl, hw⟩; have hw2 := hw.symm; subst hw2; clear hw) | (go_at_call 27; refine (H27.out _).mono ?_; rintro e w' ⟨rfl, hw⟩; have hw2 := hw.symm; subst hw2; clear hw) | (go_at_call 21; refine (H21.out _).mono ?_; rintro e w' ⟨rfl, hw⟩; have hw2 := hw.symm; subst hw2; clear hw))
                                go_round
                                case rel => exact ⟨p + 3 + k, f, _, false, _, _, by go_num, rfl, rfl, rfl, by omega, by omega, by show (ms c || g c) = _; rw [HM.out, HG.out]; rfl, HB2⟩
                                case measure => simp [intOf]; omega
                            · as_aux_lemma =>
                                go_wp2_with (first | (go_at_call 26; refine (H26.out _).mono ?_; rintro e w' ⟨rfl, hw⟩; have hw2 := hw.symm; subst hw2; clear hw) | (go_at_call 27; refine (H27.out _).mono ?_; rintro e w' ⟨rfl, hw⟩; have hw2 := hw.symm; subst hw2; clear hw) | (go_at_call 21; refine (H21.out _).mono ?_; rintro e w' ⟨rfl, hw⟩; have hw2 := hw.symm; subst hw2; clear hw))
                                go_round
                                case rel => exact ⟨p + 3 + k, f, _, false, _, _, by go_num, rfl, rfl, rfl, by omega, by omega, by show (ms c || g c) = _; rw [HM.out]; rfl, HB2⟩
                                case measure => simp [intOf]; omega
                    · have n58 : (((s[p + 1]'hp1).toNat : Int) == 58) = false := by rw [byteAt_eq]; exact bfalse hn8
                      have HB2 := hide (next_ok HB.out (stp_lit hps (fun h => by omega) (by omega) (fun h => by omega) (fun _ => Or.inr hn8)))
                      clear HB HX hv hv5 hn8
                      cases mb
                      · as_aux_lemma =>
                          go_wp2
                          go_round
                          case rel => exact ⟨p + 1, f, _, false, _, _, by go_num, rfl, by rw [← byteAt_eq s p hps, wrap64_byte], rfl, by omega, by omega, by show (ms c || byteAt s p == c) = _; rw [HM.out, ← byteAt_eq s p hps]; rfl, HB2⟩
                          case measure => simp [intOf]; omega
                      · as_aux_lemma =>
                          go_wp2
                          go_round
                          case rel => exact ⟨p + 1, f, _, false, _, _, by go_num, rfl, by rw [← byteAt_eq s p hps, wrap64_byte], rfl, by omega, by omega, by show (ms c || byteAt s p == c) = _; rw [HM.out]; rfl, HB2⟩
                          case measure => simp [intOf]; omega
                  · have HB2 := hide (next_ok HB.out (stp_lit hps (fun h => by omega) (by omega) (fun h => by omega) (fun _ => Or.inl (by omega))))
                    clear HB HX hv hv5
                    cases mb
                    · as_aux_lemma =>
                        go_wp2
                        go_round
                        case rel => exact ⟨p + 1, f, _, false, _, _, by go_num, rfl, by rw [← byteAt_eq s p hps, wrap64_byte], rfl, by omega, by omega, by show (ms c || byteAt s p == c) = _; rw [HM.out, ← byteAt_eq s p hps]; rfl, HB2⟩
                        case measure => simp [intOf]; omega
                    · as_aux_lemma =>
                        go_wp2
                        go_round
                        case rel => exact ⟨p + 1, f, _, false, _, _, by go_num, rfl, by rw [← byteAt_eq s p hps, wrap64_byte], rfl, by omega, by omega, by show (ms c || byteAt s p == c) = _; rw [HM.out]; rfl, HB2⟩
                        case measure => simp [intOf]; omega
                · have b93 : (((s[p]'hps).toNat : Int) == 93) = false := by rw [byteAt_eq]; exact bfalse hv3
                  have b92 : (((s[p]'hps).toNat : Int) == 92) = false := by rw [byteAt_eq]; exact bfalse hv
                  have b45 : (((s[p]'hps).toNat : Int) == 45) = false := by rw [byteAt_eq]; exact bfalse hv4
                  have b91 : (((s[p]'hps).toNat : Int) == 91) = false := by rw [byteAt_eq]; exact bfalse hv5
                  have HB2 := hide (next_ok HB.out (stp_lit hps (fun h => absurd h hv3) hv (fun h => absurd h hv4) (fun h => absurd h hv5)))
                  clear HB HX hv hv3 hv4 hv5
                  cases mb
                  · as_aux_lemma =>
                      go_wp2
                      go_round
                      case rel => exact ⟨p + 1, f, _, false, _, _, by go_num, rfl, by rw [← byteAt_eq s p hps, wrap64_byte], rfl, by omega, by omega, by show (ms c || byteAt s p == c) = _; rw [HM.out, ← byteAt_eq s p hps]; rfl, HB2⟩
                      case measure => simp [intOf]; omega
                  · as_aux_lemma =>
                      go_wp2
                      go_round
                      case rel => exact ⟨p + 1, f, _, false, _, _, by go_num, rfl, by rw [← byteAt_eq s p hps, wrap64_byte], rfl, by omega, by omega, by show (ms c || byteAt s p == c) = _; rw [HM.out]; rfl, HB2⟩
                      case measure => simp [intOf]; omega
        · have HX : Hid True := trivial
          have hR := done_ok HB.out (stp_out (by omega))
          subst hR
          clear HB HX
          as_aux_lemma =>
            go_wp2
            go_ret3
            exact ⟨rfl, rfl⟩
end Go.Proofs.Qxb6601775a
