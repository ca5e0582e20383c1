/- The walk of FnMatchPartPlainPatternIsEquality. -/
import Derived.Test.Qxb6601775aLit
namespace Go.Proofs.Qxb6601775a
open Go.RowKit Glob

theorem byteAt_inj {s t : ByteArray} {i : Nat} (hs : i < s.size) (ht : i < t.size) (h : byteAt s i = byteAt t i) : s[i]'hs = t[i]'ht := by
  rw [← byteAt_eq s i hs, ← byteAt_eq t i ht] at h
  exact UInt8.toNat_inj.1 (by omega)

theorem toList_get (s : ByteArray) (i : Nat) (h : i < s.size) : s.toList[i]? = some (s[i]'h) := by
  rw [ByteArray.toList_eq]
  rw [List.getElem?_eq_getElem (by simpa using h)]; rfl

theorem toList_len (s : ByteArray) : s.toList.length = s.size := by
  rw [ByteArray.toList_eq]; simp

theorem same_bytes (s t : ByteArray) : s.toList = t.toList ↔ s.size = t.size ∧ ∀ j, j < s.size → byteAt s j = byteAt t j := by
  constructor
  · intro h
    have hz : s.size = t.size := by rw [← toList_len s, ← toList_len t, h]
    refine ⟨hz, fun j hj => ?_⟩
    have e := toList_get s j hj
    rw [h, toList_get t j (by omega)] at e
    rw [← byteAt_eq s j hj, ← byteAt_eq t j (by omega)]
    rw [Option.some.inj e]
  · rintro ⟨hz, h⟩
    apply List.ext_getElem?
    intro i
    by_cases hi : i < s.size
    · rw [toList_get s i hi, toList_get t i (by omega), byteAt_inj hi (by omega) (h i hi)]
    · rw [List.getElem?_eq_none (by rw [toList_len]; omega), List.getElem?_eq_none (by rw [toList_len]; omega)]

/-- A pattern of plain bytes takes just itself. -/
theorem plain_answer (s t : ByteArray) (b : Bool) (h : ∀ i, i < s.size → byteAt s i ≠ 42 ∧ byteAt s i ≠ 63) (hb : b = true ↔ RR (thePat s t (litTok s)) 0 0) :
    (b == (s.toList == t.toList)) = true := by
  have h1 := plain_eq (thePat s t (litTok s)) (byteAt s) (fun i hi => by show (byteAt s i == 42) = false; exact beq_false_of (h i hi).1)
    (fun i hi => by show litTok s i = _; unfold litTok; rw [if_neg (h i hi).2]) s.size 0 0 (Nat.zero_add _)
  have h2 : b = true ↔ (s.toList == t.toList) = true := by
    rw [hb, h1, beq_iff_eq, same_bytes]
    show (0 + s.size = t.size ∧ ∀ j, j < s.size → byteAt s (0 + j) = byteAt t (0 + j)) ↔ _
    simp only [Nat.zero_add]
  rw [beq_iff_eq, Bool.eq_iff_iff]
  exact h2

set_option maxHeartbeats 1000000 in
theorem plain_walk (s : ByteArray) (t : ByteArray) (w0 : s.size ≤ maxLen) (w1 : t.size ≤ maxLen) (w : World) :
    Calls Try.prog 8 #[.string s, .string t] w fun e w' => e = .returned (.bool true) ∧ ∃ n, w' = w.drewN n := by
  by_cases hsum : s.size + t.size ≤ 1048576
  · have hd : decide (s.size + t.size ≤ 1048576) = true := by simpa using hsum
    have HZ := hide (fun W => sizes19 s t W w0 w1)
    rw [hd] at HZ
    clear hd w0 w1
    by_cases hs : s.size ≤ 524288
    · have c1 : decide ((524288 : Int) < (s.size : Int)) = false := by simp; omega
      by_cases ht : t.size ≤ 524288
      · have c2 : decide ((524288 : Int) < (t.size : Int)) = false := by simp; omega
        go_enter Try.func8, Try.ntmps8
        go_wp2_with (go_at_call 19; refine (HZ.out _).mono ?_; rintro e w' ⟨rfl, hw⟩; have hw2 := hw.symm; subst hw2; clear hw)
        go_loop [5] (fun vi => ∃ k : Nat, vi = .int .i64 k ∧ k ≤ s.size ∧ Hid (∀ i, i < k → byteAt s i ≠ 42 ∧ byteAt s i ≠ 63 ∧ byteAt s i ≠ 91 ∧ byteAt s i ≠ 92)) (fun vi => s.size - (intOf vi).toNat)
        case atStart => exact ⟨0, rfl, Nat.zero_le _, fun i h => by omega⟩
        case round =>
          obtain ⟨k, rfl, hk, hall⟩ := hrel
          by_cases hlt : k < s.size
          · go_wp2
            all_goals first
              | (go_ret; exact ⟨rfl, 0, rfl⟩)
              | (go_round
                 case rel =>
                   have h1 : ¬ ((s[k]'hlt).toNat : Int) = 42 := by assumption
                   have h2 : ¬ ((s[k]'hlt).toNat : Int) = 63 := by assumption
                   have h3 : ¬ ((s[k]'hlt).toNat : Int) = 91 := by assumption
                   have h4 : (((((s[k]'hlt).toNat : Int) == 42) = false ∧ (((s[k]'hlt).toNat : Int) == 63) = false) ∧ (((s[k]'hlt).toNat : Int) == 91) = false) ∧ (((s[k]'hlt).toNat : Int) == 92) = false := by assumption
                   have h5 : ¬ ((s[k]'hlt).toNat : Int) = 92 := by simpa using h4.2
                   refine ⟨k + 1, by go_num, by omega, fun i hi => ?_⟩
                   by_cases e : i = k
                   · subst e; rw [← byteAt_eq s i hlt]; exact ⟨h1, h2, h3, h5⟩
                   · exact hall.out i (by omega)
                 case measure => simp [intOf]; omega)
          · have hke : k = s.size := by omega
            have H := hide (fun W => zzpart_any s t (litTok s) W (by omega) (by omega) (byteOk_lit s (by omega) (fun i hi => ⟨(hall.out i (by omega)).2.2.1, (hall.out i (by omega)).2.2.2⟩)) (litTok_next s))
            clear hke
            go_wp2_with (go_at_call 17; refine (H.out _).mono ?_; rintro e w' ⟨b, n, rfl, hb, rfl⟩; have HB := hide hb; clear hb)
            go_ret
            refine ⟨?_, _, rfl⟩
            show Ending.returned (Value.bool (b == (s.toList == t.toList))) = _
            rw [plain_answer s t b (fun i hi => ⟨(hall.out i (by omega)).1, (hall.out i (by omega)).2.1⟩) HB.out]
      · have c2 : decide ((524288 : Int) < (t.size : Int)) = true := by simp; omega
        go_enter Try.func8, Try.ntmps8
        go_wp2_with (go_at_call 19; refine (HZ.out _).mono ?_; rintro e w' ⟨rfl, hw⟩; have hw2 := hw.symm; subst hw2; clear hw)
        go_ret
        exact ⟨rfl, 0, rfl⟩
    · have c1 : decide ((524288 : Int) < (s.size : Int)) = true := by simp; omega
      go_enter Try.func8, Try.ntmps8
      go_wp2_with (go_at_call 19; refine (HZ.out _).mono ?_; rintro e w' ⟨rfl, hw⟩; have hw2 := hw.symm; subst hw2; clear hw)
      go_ret
      exact ⟨rfl, 0, rfl⟩
  · have hd : decide (s.size + t.size ≤ 1048576) = false := by simpa using hsum
    have HZ := hide (fun W => sizes19 s t W w0 w1)
    rw [hd] at HZ
    clear hd hsum
    go_enter Try.func8, Try.ntmps8
    go_wp2_with (go_at_call 19; refine (HZ.out _).mono ?_; rintro e w' ⟨rfl, hw⟩; have hw2 := hw.symm; subst hw2; clear hw)
    go_ret
    exact ⟨rfl, 0, rfl⟩
end Go.Proofs.Qxb6601775a
