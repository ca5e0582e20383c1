/- The law of the concatenation. -/
import Derived.Test.Qxb6602170aClone
namespace Go.Proofs.Qxb6602170a
open Go.RowKit
set_option linter.unusedVariables false

theorem Row.mono {B B' : Nat} {w : World} {a : Option Addr} {n : Nat} {z : Nat → Int} (h : Row B w a n z) (hB : B ≤ B') : Row B' w a n z := by
  rcases h with h | ⟨b, h1, h3, h4⟩
  · exact Or.inl h
  · exact Or.inr ⟨b, h1, by omega, h4⟩

set_option maxHeartbeats 1000000 in
theorem two_long (a1 : Option Addr) (n1 c1 : Nat) (a2 : Option Addr) (n2 c2 : Nat) (w : World) (hm1 : n1 ≤ maxLen) (hm2 : n2 ≤ maxLen) (h : ¬ n1 + n2 ≤ 1048576) :
    Calls Try.prog 4 #[.slice a1 n1 c1, .slice a2 n2 c2] w fun e w' => e = .returned (.bool true) ∧ Below w.heap.size w w' := by
  have H11 := hide (sizes11 a1 a2 n1 n2 c1 c2 w hm1 hm2)
  have h4 : decide (n1 + n2 ≤ 1048576) = false := by simpa using h
  rw [h4] at H11
  clear hm1 hm2 h4
  go_enter Try.func4, Try.ntmps4
  go_wp2_with (go_at_call 11; refine H11.out.mono ?_; rintro e w' ⟨rfl, hw⟩; have hw2 := hw.symm; subst hw2; clear hw)
  go_ret
  exact ⟨rfl, Below.refl _ _⟩

set_option maxHeartbeats 1000000 in
theorem two_p (a1 : Option Addr) (n1 c1 : Nat) (a2 : Option Addr) (n2 c2 : Nat) (w : World) (h : n1 + n2 ≤ 1048576) (hp : ¬ n1 ≤ 524288) :
    Calls Try.prog 4 #[.slice a1 n1 c1, .slice a2 n2 c2] w fun e w' => e = .returned (.bool true) ∧ Below w.heap.size w w' := by
  have H11 := hide (sizes11 a1 a2 n1 n2 c1 c2 w (by unfold maxLen; omega) (by unfold maxLen; omega))
  have h4 : decide (n1 + n2 ≤ 1048576) = true := by simpa using h
  rw [h4] at H11
  clear h4
  go_enter Try.func4, Try.ntmps4
  go_wp2_with (go_at_call 11; refine H11.out.mono ?_; rintro e w' ⟨rfl, hw⟩; have hw2 := hw.symm; subst hw2; clear hw)
  go_ret
  exact ⟨rfl, Below.refl _ _⟩

set_option maxHeartbeats 1000000 in
theorem two_q (a1 : Option Addr) (n1 c1 : Nat) (a2 : Option Addr) (n2 c2 : Nat) (w : World) (h : n1 + n2 ≤ 1048576) (hp : n1 ≤ 524288) (hq : ¬ n2 ≤ 524288) :
    Calls Try.prog 4 #[.slice a1 n1 c1, .slice a2 n2 c2] w fun e w' => e = .returned (.bool true) ∧ Below w.heap.size w w' := by
  have H11 := hide (sizes11 a1 a2 n1 n2 c1 c2 w (by unfold maxLen; omega) (by unfold maxLen; omega))
  have h4 : decide (n1 + n2 ≤ 1048576) = true := by simpa using h
  rw [h4] at H11
  clear h4
  go_enter Try.func4, Try.ntmps4
  go_wp2_with (go_at_call 11; refine H11.out.mono ?_; rintro e w' ⟨rfl, hw⟩; have hw2 := hw.symm; subst hw2; clear hw)
  go_ret
  exact ⟨rfl, Below.refl _ _⟩

/-- The row pq when its first i bytes are laid. -/
def laid (z y : Nat → Int) (n i k : Nat) : Value := .int .u8 (if k < i then catZ z y n k else 0)

theorem laid_next {w : World} {b n m i : Nat} {z y : Nat → Int} (h : w.rowIs b 5 m (laid z y n i)) :
    (w.setCell ⟨b, i, none⟩ (.int .u8 (catZ z y n i))).rowIs b 5 m (laid z y n (i + 1)) :=
  (h.set i _).congr (fun k _ => by
    show (if k = i then Value.int .u8 (catZ z y n i) else laid z y n i k) = laid z y n (i + 1) k
    unfold laid
    by_cases e : k = i
    · subst e; simp
    · rw [if_neg e]
      by_cases e2 : k < i
      · rw [if_pos e2, if_pos (by omega)]
      · rw [if_neg e2, if_neg (by omega)])

set_option maxHeartbeats 2000000 in
theorem two_main (a1 : Option Addr) (n1 c1 : Nat) (zs1 : List Int) (a2 : Option Addr) (n2 c2 : Nat) (zs2 : List Int) (w : World) (hr1 : InRow w a1 n1 c1 zs1) (hr2 : InRow w a2 n2 c2 zs2) (hp : n1 ≤ 524288) (hq : n2 ≤ 524288) :
    Calls Try.prog 4 #[.slice a1 n1 c1, .slice a2 n2 c2] w fun e w' => e = .returned (.bool true) ∧ Below w.heap.size w w' := by
  have H11 := hide (sizes11 a1 a2 n1 n2 c1 c2 w hr1.le hr2.le)
  have h4 : decide (n1 + n2 ≤ 1048576) = true := by simp; omega
  rw [h4] at H11
  have H9 := hide (clone_any a1 n1 c1 zs1 w hr1 (by omega))
  have HZ1 := hide hr1.byte
  have HZ2 := hide hr2.byte
  have HR2 := hide hr2
  have hmk : ∀ W, (Instr.makeSlice 22 (.int .i64 ((n1 : Int) + (n2 : Int))) (.int .i64 ((n1 : Int) + (n2 : Int)))).run Try.prog W = .ok (.slice (some ⟨W.heap.size, 0, none⟩) (n1 + n2) (n1 + n2)) (W.alloc (.cells (madeCells #[.int .u8 0] (n1 + n2)) 5)) := fun W => by
    have := run_make_row' (P := Try.prog) 22 5 (.int .u8 0) 1 Try.underlying22 Try.info5 rfl .i64 .i64 (n1 + n2) (by omega) (by omega) W
    rwa [Int.natCast_add] at this
  clear hr1 hr2 h4
  have tok1 : True := trivial
  have tok2 : True := trivial
  go_enter Try.func4, Try.ntmps4
  go_wp2_with (go_at_call 11; refine H11.out.mono ?_; rintro e w' ⟨rfl, hw⟩; have hw2 := hw.symm; subst hw2; clear hw)
  go_wp2_with (go_at_call 9; first | (clear tok1; refine H9.out.mono ?_; rintro e w1 ⟨p, rfl, hrow1, hb1⟩; have H9b := hide (clone_any a2 n2 c2 zs2 w1 (HR2.out.on hb1) (by omega)); replace hrow1 := hide hrow1; replace hb1 := hide hb1) | (clear tok2; refine H9b.out.mono ?_; rintro e w2 ⟨q, rfl, hrow2, hb2⟩; replace hrow2 := hide hrow2; replace hb2 := hide hb2))
  have P1 : Hid (Row w2.heap.size w2 p n1 (inZ zs1)) := (hrow1.out.on hb2.out (Nat.le_refl _)).mono hb2.out.size
  have hbw : Hid (Below w.heap.size w w2) := hb1.out.trans (hb2.out.mono hb1.out.size)
  have hww : Hid (w.heap.size ≤ w2.heap.size) := hbw.out.size
  clear hmk hrow1 hb1 hb2 H9 H9b H11 HR2
  go_loopw [6] (fun vi wr => ∃ i : Nat, vi = .int .i64 i ∧ i ≤ n1 ∧ Hid (wr.rowIs w2.heap.size 5 (n1 + n2) (laid (inZ zs1) (inZ zs2) n1 i)) ∧ Hid (Below w2.heap.size w2 wr)) (fun vi _ => n1 - (intOf vi).toNat)
  case atStart =>
    refine ⟨0, rfl, Nat.zero_le _, ?_, (Below.refl _ _).alloc (Nat.le_refl _) _⟩
    exact (World.rowIs_made w2 (.int .u8 0) (n1 + n2) 5).congr (fun i _ => by simp [laid])
  case round =>
    obtain ⟨i, rfl, hi, HR, HB⟩ := hrel
    by_cases hlt : i < n1
    · obtain ⟨b, rfl, h1, hc⟩ := P1.out.at (by omega)
      have c1 : wr.cell? ⟨b, i, none⟩ = some (.int .u8 (catZ (inZ zs1) (inZ zs2) n1 i)) := (HB.out.cell (p := ⟨b, i, none⟩) h1).trans (by rw [hc i hlt, cat_left hlt])
      have c2 := HR.out.cell (i := i) (by omega)
      have f2 := HR.out.frozen i
      have HR2 := hide (laid_next HR.out)
      have HB2 : Hid (Below w2.heap.size w2 (wr.setCell ⟨w2.heap.size, i, none⟩ (.int .u8 (catZ (inZ zs1) (inZ zs2) n1 i)))) := HB.out.setCell (p := ⟨w2.heap.size, i, none⟩) (Nat.le_refl _) _
      clear HR HB h1 hc
      go_wp2
      go_roundw
      case rel => exact ⟨i + 1, by go_num, by omega, HR2, HB2⟩
      case measure => simp [intOf]; omega
    · have hie : i = n1 := by omega
      subst hie
      clear hi hlt
      go_wp2
      go_loopw [7] (fun vj wr => ∃ j : Nat, vj = .int .i64 j ∧ j ≤ n2 ∧ Hid (wr.rowIs w2.heap.size 5 (i + n2) (laid (inZ zs1) (inZ zs2) i (i + j))) ∧ Hid (Below w2.heap.size w2 wr)) (fun vj _ => n2 - (intOf vj).toNat)
      case atStart => exact ⟨0, rfl, Nat.zero_le _, HR, HB⟩
      case round =>
        clear HR HB
        obtain ⟨j, rfl, hj, HR, HB⟩ := hrel
        by_cases hlt : j < n2
        · obtain ⟨b, rfl, h1, hc⟩ := hrow2.out.at (by omega)
          have c1 : wr.cell? ⟨b, j, none⟩ = some (.int .u8 (catZ (inZ zs1) (inZ zs2) i (i + j))) := (HB.out.cell (p := ⟨b, j, none⟩) h1).trans (by rw [hc j hlt, cat_right])
          have c2 := HR.out.cell (i := i + j) (by omega)
          have f2 := HR.out.frozen (i + j)
          have HR2 := hide (laid_next HR.out)
          have HB2 : Hid (Below w2.heap.size w2 (wr.setCell ⟨w2.heap.size, i + j, none⟩ (.int .u8 (catZ (inZ zs1) (inZ zs2) i (i + j))))) := HB.out.setCell (p := ⟨w2.heap.size, i + j, none⟩) (Nat.le_refl _) _
          have t1 : ((i : Int) + (j : Int)).toNat = i + j := by omega
          clear HR HB h1 hc
          go_wp2
          go_roundw
          case rel => exact ⟨j + 1, by go_num, by omega, HR2, HB2⟩
          case measure => simp [intOf]; omega
        · have hie : j = n2 := by omega
          subst hie
          have Hp := hide (zlast_any _ p i _ wr (by omega) HZ1.out (P1.out.on HB.out (Nat.le_refl _)))
          have Hq := hide (zlast_any _ q j _ wr (by omega) HZ2.out (hrow2.out.on HB.out (Nat.le_refl _)))
          have Hr : Hid (Calls Try.prog 10 #[.slice (some ⟨w2.heap.size, 0, none⟩) (i + j) (i + j)] wr fun e w' => e = .returned (.int .i64 (lastNL (catZ (inZ zs1) (inZ zs2) i) (i + j))) ∧ w' = wr) :=
            zlast_any (w2.heap.size + 1) _ (i + j) _ wr (by omega) (fun k => by unfold catZ; split; exact HZ1.out _; exact HZ2.out _)
              (Or.inr ⟨w2.heap.size, rfl, by omega, fun k hk => by rw [HR.out.cell hk]; unfold laid; rw [if_pos hk]⟩)
          have HW : Hid (Below w.heap.size w wr) := hbw.out.trans (HB.out.mono hww.out)
          clear HR HB hlt hj
          have tok1 : True := trivial
          have tok2 : True := trivial
          have tok3 : True := trivial
          rcases last_cases (inZ zs2) j with ⟨h1, h2⟩ | ⟨k, h1, h2, h3, h4⟩
          · have e1 := last_cat_none (inZ zs1) (inZ zs2) i j h2
            rw [h1] at Hq
            rw [e1] at Hr
            clear h1 h2 e1
            go_wp2_with (go_at_call 10; (first | (clear tok1; refine Hp.out.mono ?_) | (clear tok2; refine Hq.out.mono ?_) | (clear tok3; refine Hr.out.mono ?_)); rintro e w' ⟨rfl, hw⟩; have hw2 := hw.symm; subst hw2; clear hw)
            go_ret
            exact ⟨by simp, HW.out⟩
          · have e1 := last_cat_some (inZ zs1) (inZ zs2) i j k h2 h3 h4
            rw [h1] at Hq
            rw [e1] at Hr
            have e2 : ((i + k : Nat) : Int) = (i : Int) + (k : Int) := by omega
            rw [e2] at Hr
            clear h1 h3 h4 e1 e2
            go_wp2_with (go_at_call 10; (first | (clear tok1; refine Hp.out.mono ?_) | (clear tok2; refine Hq.out.mono ?_) | (clear tok3; refine Hr.out.mono ?_)); rintro e w' ⟨rfl, hw⟩; have hw2 := hw.symm; subst hw2; clear hw)
            go_ret
            exact ⟨by simp, HW.out⟩

theorem two_any (a1 : Option Addr) (n1 c1 : Nat) (zs1 : List Int) (a2 : Option Addr) (n2 c2 : Nat) (zs2 : List Int) (w : World) (hr1 : InRow w a1 n1 c1 zs1) (hr2 : InRow w a2 n2 c2 zs2) :
    Calls Try.prog 4 #[.slice a1 n1 c1, .slice a2 n2 c2] w fun e w' => e = .returned (.bool true) ∧ Below w.heap.size w w' := by
  by_cases h : n1 + n2 ≤ 1048576
  · by_cases hp : n1 ≤ 524288
    · by_cases hq : n2 ≤ 524288
      · exact two_main a1 n1 c1 zs1 a2 n2 c2 zs2 w hr1 hr2 hp hq
      · exact two_q a1 n1 c1 a2 n2 c2 w h hp hq
    · exact two_p a1 n1 c1 a2 n2 c2 w h hp
  · exact two_long a1 n1 c1 a2 n2 c2 w hr1.le hr2.le h
end Go.Proofs.Qxb6602170a
