/- The walk of FnMatchPartAgreesWithTokenTable. -/
import Derived.Test.Qxb6601775aByte
import Derived.Test.Qxb6601775aTable
namespace Go.Proofs.Qxb6601775a
open Go.RowKit Glob

set_option maxHeartbeats 400000 in
theorem sizes16 (s t : ByteArray) (w : World) (hs : s.size ≤ maxLen) (ht : t.size ≤ maxLen) :
    Calls Try.prog 16 #[.string s, .string t] w fun e w' => e = .returned (.bool (decide (s.size + t.size ≤ 1048576))) ∧ w' = w := by
  unfold maxLen at hs ht
  by_cases h1 : s.size ≤ 1048576
  · by_cases h2 : t.size ≤ 1048576
    · by_cases h3 : s.size + t.size ≤ 1048576
      · have h4 : decide (s.size + t.size ≤ 1048576) = true := by simp; omega
        go_enter Try.func16, Try.ntmps16
        go_wp2
        go_ret
        exact ⟨by rw [h4]; rfl, rfl⟩
      · have h4 : decide (s.size + t.size ≤ 1048576) = false := by simp; omega
        go_enter Try.func16, Try.ntmps16
        go_wp2
        go_ret
        exact ⟨by rw [h4]; rfl, rfl⟩
    · have h4 : decide (s.size + t.size ≤ 1048576) = false := by simp; omega
      go_enter Try.func16, Try.ntmps16
      go_wp2
      go_ret
      exact ⟨by rw [h4]; rfl, rfl⟩
  · have h4 : decide (s.size + t.size ≤ 1048576) = false := by simp; omega
    go_enter Try.func16, Try.ntmps16
    go_wp2
    go_ret
    exact ⟨by rw [h4]; rfl, rfl⟩

theorem beq_of_iff {a b : Bool} {P : Prop} (ha : a = true ↔ P) (hb : b = true ↔ P) : (a == b) = true := by
  rw [beq_iff_eq, Bool.eq_iff_iff, ha, hb]

set_option maxHeartbeats 1000000 in
theorem agree_walk (s : ByteArray) (t : ByteArray) (w0 : s.size ≤ maxLen) (w1 : t.size ≤ maxLen) (w : World) :
    Calls Try.prog 7 #[.string s, .string t] w fun e w' => e = .returned (.bool true) ∧ Grown w w' := by
  by_cases hsum : s.size + t.size ≤ 1048576
  · have hd : decide (s.size + t.size ≤ 1048576) = true := by simpa using hsum
    have HZ := hide (fun W => sizes16 s t W w0 w1)
    rw [hd] at HZ
    clear hd w0 w1
    by_cases hs : s.size ≤ 4096
    · have c1 : decide ((4096 : Int) < (s.size : Int)) = false := by simp; omega
      by_cases ht : t.size ≤ 4096
      · have c2 : decide ((4096 : Int) < (t.size : Int)) = false := by simp; omega
        have HP := hide (fun W => zzpart_any s t (fullTok s) W (by omega) (by omega) (byteOk_full s (by omega)) (fullTok_next s))
        have HT := hide (fun W => table_any s t (fullTok s) W (by omega) (by omega) (byteOk_full s (by omega)) (fullTok_next s))
        go_enter Try.func7, Try.ntmps7
        go_wp2_with (first | (go_at_call 16; refine (HZ.out _).mono ?_; rintro e w' ⟨rfl, hw⟩; have hw2 := hw.symm; subst hw2; clear hw) | (go_at_call 17; refine (HP.out _).mono ?_; rintro e w' ⟨b1, n, rfl, hb1, rfl⟩; have HB1 := hide hb1; clear hb1) | (go_at_call 18; refine (HT.out _).mono ?_; rintro e w2 ⟨b2, rfl, hb2, hg2⟩; have HB2 := hide hb2; have HG2 := hide hg2; clear hb2 hg2))
        go_ret
        refine ⟨?_, HG2.out⟩
        show Ending.returned (Value.bool (b1 == b2)) = _
        rw [beq_of_iff HB1.out HB2.out]
      · have c2 : decide ((4096 : Int) < (t.size : Int)) = true := by simp; omega
        go_enter Try.func7, Try.ntmps7
        go_wp2_with (go_at_call 16; refine (HZ.out _).mono ?_; rintro e w' ⟨rfl, hw⟩; have hw2 := hw.symm; subst hw2; clear hw)
        go_ret
        exact ⟨rfl, Grown.refl _⟩
    · have c1 : decide ((4096 : Int) < (s.size : Int)) = true := by simp; omega
      go_enter Try.func7, Try.ntmps7
      go_wp2_with (go_at_call 16; refine (HZ.out _).mono ?_; rintro e w' ⟨rfl, hw⟩; have hw2 := hw.symm; subst hw2; clear hw)
      go_ret
      exact ⟨rfl, Grown.refl _⟩
  · have hd : decide (s.size + t.size ≤ 1048576) = false := by simpa using hsum
    have HZ := hide (fun W => sizes16 s t W w0 w1)
    rw [hd] at HZ
    clear hd hsum
    go_enter Try.func7, Try.ntmps7
    go_wp2_with (go_at_call 16; refine (HZ.out _).mono ?_; rintro e w' ⟨rfl, hw⟩; have hw2 := hw.symm; subst hw2; clear hw)
    go_ret
    exact ⟨rfl, Grown.refl _⟩
end Go.Proofs.Qxb6601775a
