/- zzReadValue, where the reader accepts. -/
import Derived.Test.Qxb6601896aSan
import Derived.Deep.CutRange
import Derived.Deep.RegionHeld3
import Derived.Deep.AppendLies
namespace Go.Proofs.Qxb6601896a
open Go.RowKit
set_option linter.unusedVariables false

theorem rd_inv {f : Nat} {first psl : Bool} {acc m R : List UInt8} (hm : m ≠ []) (h : rd (f + 1) first psl acc m = some R) :
    (bt m 0 = 92 ∧ 2 < m.length ∧ hexB (bt m 1) = true ∧ hexB (bt m 2) = true ∧ rd f false false (acc ++ [(hexV (bt m 1) * 16 + hexV (bt m 2)).toNat.toUInt8]) (m.drop 3) = some R) ∨
    (bt m 0 = 92 ∧ 1 < m.length ∧ ¬ (2 < m.length ∧ hexB (bt m 1) = true ∧ hexB (bt m 2) = true) ∧ okE (bt m 1) = true ∧ rd f false false (acc ++ [m.getD 1 0]) (m.drop 2) = some R) ∨
    (bt m 0 ≠ 92 ∧ badP (bt m 0) = false ∧ ¬ (first = true ∧ (bt m 0 = 32 ∨ bt m 0 = 35)) ∧ rd f false (decide (bt m 0 = 32)) (acc ++ [m.getD 0 0]) (m.drop 1) = some R) := by
  rw [rd, if_neg hm] at h
  by_cases h1 : bt m 0 = 92
  · rw [if_pos h1] at h
    by_cases h2 : 2 < m.length ∧ hexB (bt m 1) = true ∧ hexB (bt m 2) = true
    · rw [if_pos h2] at h
      exact Or.inl ⟨h1, h2.1, h2.2.1, h2.2.2, h⟩
    · rw [if_neg h2] at h
      by_cases h3 : 1 < m.length ∧ okE (bt m 1) = true
      · rw [if_pos h3] at h
        exact Or.inr (Or.inl ⟨h1, h3.1, h2, h3.2, h⟩)
      · rw [if_neg h3] at h; cases h
  · rw [if_neg h1] at h
    by_cases h2 : badP (bt m 0) = true
    · rw [if_pos h2] at h; cases h
    rw [if_neg h2] at h
    by_cases h3 : first = true ∧ (bt m 0 = 32 ∨ bt m 0 = 35)
    · rw [if_pos h3] at h; cases h
    rw [if_neg h3] at h
    exact Or.inr (Or.inr ⟨h1, by simpa using h2, h3, h⟩)

theorem bt_str (sb : ByteArray) (i : Nat) (h : i < sb.size) : ((sb[i]'h).toNat : Int) = bt sb.data.toList i := by
  unfold bt
  have : sb.data.toList[i]? = some (sb[i]'h) := by rw [List.getElem?_eq_getElem (by simpa using h)]; rfl
  simp [List.getD, this]

theorem or_nib (a b : Int) (ha : 0 ≤ a ∧ a ≤ 15) (hb : 0 ≤ b ∧ b ≤ 15) : bits BinOp.or IntKind.u8 (a * 16) b = a * 16 + b := by
  obtain ⟨x, rfl⟩ := Int.eq_ofNat_of_zero_le ha.1
  obtain ⟨y, rfl⟩ := Int.eq_ofNat_of_zero_le hb.1
  have h : ∀ x y : Fin 16, bits BinOp.or IntKind.u8 ((x.val : Int) * 16) (y.val : Int) = (x.val : Int) * 16 + (y.val : Int) := by decide +kernel
  exact h ⟨x, by omega⟩ ⟨y, by omega⟩

theorem hexV_range (x : Int) (h : hexB x = true) : 0 ≤ hexV x ∧ hexV x ≤ 15 := by
  unfold hexB at h
  simp only [decide_eq_true_eq] at h
  unfold hexV
  split
  · omega
  · split <;> omega

theorem nib_cell (n : Int) (h0 : 0 ≤ n) (h1 : n ≤ 255) : Lib.byteCells [n.toNat.toUInt8] = [.int .u8 n] := by
  unfold Lib.byteCells
  simp
  omega

def RdPost (R : List UInt8) (w : World) (e : Ending) (w' : World) : Prop := ∃ v', e = .returned (.tuple #[v', .bool true]) ∧ Built R w v' w'

/-- What holds at the head of each round. -/
def RelR (o R : List UInt8) (w : World) (v vi vp : Value) (wr : World) : Prop :=
  ∃ (i f : Nat) (psl : Bool) (acc : List UInt8), vi = .int .i64 i ∧ vp = .bool psl ∧ wr.ownsRow w.heap.size 5 1 v acc.length (Lib.byteCells acc) ∧ Below w.heap.size w wr ∧ rd f (decide (i = 0)) psl acc (o.drop i) = some R ∧ o.length ≤ i + f ∧ i ≤ o.length ∧ acc.length ≤ i

set_option maxHeartbeats 4000000 in
set_option maxRecDepth 100000 in
theorem rdv_any (sb : ByteArray) (R : List UInt8) (w : World) (hn : sb.size ≤ 262144) (HR : Hid (rd sb.data.toList.length true false [] sb.data.toList = some R)) :
    Calls Try.prog 19 #[.string sb] w fun e w' => RdPost R w e w' := by
  obtain ⟨i0, hi, hz0, hz1, hz2⟩ := info_parts Try.info5
  have hol : sb.data.toList.length = sb.size := by simp
  obtain ⟨o, ho⟩ : ∃ o, sb.data.toList = o := ⟨_, rfl⟩
  have hbt := fun i h => bt_str sb i h
  rw [ho] at hol HR hbt
  have HOL := hide hol
  have HBT := hide hbt
  clear hol hbt ho
  go_enter Try.func19, Try.ntmps19
  go_wp2
  go_loopw [4, 6, 7] (fun v vi vp wr => RelR o R w v vi vp wr) (fun _ vi _ _ => sb.size - (intOf vi).toNat)
  case atStart => exact ⟨0, o.length, false, [], rfl, rfl, World.ownsRow_nil _ _ _ _, Below.refl _ _, HR.out, by omega, Nat.zero_le _, Nat.zero_le _⟩
  case round =>
    obtain ⟨i, f, psl, acc, rfl, rfl, hown, hbel, hrd, hf, hio, hacc⟩ := hrel
    have hol := HOL.out
    have HB := hide hbel
    have hsz := hbel.size
    clear HR hbel
    by_cases hlt : i < sb.size
    · have hne : o.drop i ≠ [] := by intro e; have := congrArg List.length e; rw [List.length_drop] at this; simp at this; omega
      obtain ⟨f, rfl⟩ : ∃ f', f = f' + 1 := ⟨f - 1, by omega⟩
      have hiv := rd_inv hne hrd
      simp only [bt_drop, List.length_drop, List.drop_drop, Nat.add_zero, Lib.getD_dropU] at hiv
      have e0 := HBT.out i hlt
      clear hrd hne
      rcases hiv with ⟨x1, x2, x3, x4, x5⟩ | ⟨x1, x2, x3, x4, x5⟩ | ⟨x1, x2, x3, x4⟩
      · have hi1 : i + 1 < sb.size := by omega
        have hi2 : i + 2 < sb.size := by omega
        have e1 := HBT.out (i + 1) hi1
        have e2 := HBT.out (i + 2) hi2
        have b92 : (bt o i == 92) = true := by simpa using x1
        have X5 := hide x5
        have r1 := hexV_range _ x3
        have r2 := hexV_range _ x4
        have HV1 := hide (fun W => hexv_any _ W x3)
        have HV2 := hide (fun W => hexv_any _ W x4)
        have hor := or_nib _ _ r1 r2
        clear x1 x2 x5
        go_upto_region 12 with (go_at_call 29; refine (hex_any _ _).mono ?_; rintro e w' ⟨rfl, hw⟩; have hw2 := hw.symm; subst hw2; clear hw)
        go_cut [4] from 12 to 104 (fun v4 wc => wc.ownsRow w.heap.size 5 1 v4 (acc.length + 1) (Lib.byteCells acc ++ [.int .u8 (hexV (bt o (i + 1)) * 16 + hexV (bt o (i + 2)))]) ∧ Below w.heap.size w wc)
        case first =>
          clear X5 HOL HBT
          have q0 : (0 : Int) ≤ (i : Int) + 2 := by omega
          have q1 : (i : Int) + 2 < (sb.size : Int) := by omega
          have q2 : ((i : Int) + 2).toNat = i + 2 := by omega
          have q3 : IntKind.i64.wrap ((i : Int) + 2) = (i : Int) + 2 := by rw [IntKind.wrap_i64]; omega
          have q4 : IntKind.u8.wrap (hexV (bt o (i + 1)) * 16) = hexV (bt o (i + 1)) * 16 := by rw [IntKind.wrap_u8]; omega
          go_region_held3 (fun w' => True) (trivial) ((first | (go_at_call 30; refine (hexv_any _ _ (by assumption)).mono ?_; rintro e w' ⟨rfl, rfl⟩) | (refine step_append_lies _ (by rfl) _ _ _ (by rfl) w.heap.size 5 i0 (.int .u8 0) 1 1 Try.underlying22 hi hz0 hz1 hz2 rfl (by decide) _ acc.length (Lib.byteCells acc) (by rfl) (by first | exact hown.alloc _ | exact (hown.alloc _).drew) ⟨wr.heap.size, 0, none⟩ 1 1 [.int .u8 (hexV (bt o (i + 1)) * 16 + hexV (bt o (i + 2)))] (by rfl) rfl (by intro q u hq; cases q <;> simp at hq; subst hq; simp [Addr.add]) (by intro u hu; simp at hu; subst hu; rfl) (by omega) (by unfold maxLen; omega) (by omega) (by simp; omega) (wr.heap.size + 1) (by simp) ?_; intro g cp w1 hown1 hgrow hat hlt)))
          all_goals go_wp2
          all_goals go_meet
          all_goals exact ⟨hown1, (HB.out.alloc hsz _).drew.grown hgrow (by simp; omega) (fun k hk => (hown.lt k hk).1)⟩
        case rest =>
          obtain ⟨ho2, hb2⟩ := hcut
          have HO2 : Hid (wc.ownsRow w.heap.size 5 1 u4 (acc ++ [(hexV (bt o (i + 1)) * 16 + hexV (bt o (i + 2))).toNat.toUInt8]).length (Lib.byteCells (acc ++ [(hexV (bt o (i + 1)) * 16 + hexV (bt o (i + 2))).toNat.toUInt8]))) := by
            rw [bcapp, List.length_append, nib_cell _ (by omega) (by omega)]; exact ho2
          have HB2 := hide hb2
          clear ho2 hb2 hown hor
          go_wp2
          go_roundw
          case rel => exact ⟨i + 3, f, false, _, by go_num, rfl, HO2.out, HB2.out, by rw [show decide (i + 3 = 0) = false by simp]; exact X5.out, by omega, by omega, by simp; omega⟩
          case measure => simp [intOf]; omega
      · have hi1 : i + 1 < sb.size := by omega
        have e1 := HBT.out (i + 1) hi1
        have b92 : (bt o i == 92) = true := by simpa using x1
        have X3 := hide x3
        have X5 := hide x5
        have hok := x4
        unfold okE at hok
        simp only [Bool.or_eq_true, decide_eq_true_eq] at hok
        have HOK := hide hok
        clear x1 x2 x3 x5 hok x4
        go_upto_region 11 with fail
        go_cut [42] from 12 to 104 (fun v42 wc => v42 = .bool false ∧ wc = wr)
        case first =>
          clear X5 HOK hown
          by_cases hi2 : i + 2 < sb.size
          · have e2 := HBT.out (i + 2) hi2
            cases h1 : hexB (bt o (i + 1))
            · go_wp2_with (go_at_call 29; refine (hex_any _ _).mono ?_; rintro e w' ⟨rfl, hw⟩; have hw2 := hw.symm; subst hw2; clear hw)
              go_meet
              case rel => exact ⟨rfl, rfl⟩
            · have h2 : hexB (bt o (i + 2)) = false := by
                cases h2 : hexB (bt o (i + 2))
                · rfl
                · exact absurd ⟨by omega, h1, h2⟩ X3.out
              clear X3
              go_wp2_with (go_at_call 29; refine (hex_any _ _).mono ?_; rintro e w' ⟨rfl, hw⟩; have hw2 := hw.symm; subst hw2; clear hw)
              go_meet
              case rel => exact ⟨rfl, rfl⟩
          · go_wp2_with (go_at_call 29; refine (hex_any _ _).mono ?_; rintro e w' ⟨rfl, hw⟩; have hw2 := hw.symm; subst hw2; clear hw)
            go_meet
            case rel => exact ⟨rfl, rfl⟩
        case rest =>
          obtain ⟨rfl, hw⟩ := hcut
          have hw2 := hw.symm
          subst hw2
          clear hw X3
          cases hs : spB (bt o (i + 1))
          · have hok := HOK.out
            rw [hs] at hok
            simp only [Bool.false_eq_true, false_or] at hok
            rcases hok with h | h | h
            · have b32 : (bt o (i + 1) == 32) = true := by simpa using h
              clear h HOK
              go_wp2_with (first | (go_at_call 31; refine (spec_any _ _).mono ?_; rintro e w' ⟨rfl, hw⟩; have hw2 := hw.symm; subst hw2; clear hw) | (at_builtin; refine wpList_append_own _ rfl _ _ 22 rfl w.heap.size 5 i0 (.int .u8 0) 1 1 Try.underlying22 hi hz0 hz1 hz2 rfl (by decide) _ _ _ rfl (hown.alloc _) ⟨wr.heap.size, 0, none⟩ 1 1 [.int .u8 (bt o (i + 1))] rfl rfl ?c1 ?c2 ?c3 ?c4 ?c5 ?_))
              case c1 =>
                intro q u hq
                match q, hq with
                | 0, hq => simp at hq; subst hq; simp [Addr.add]
              case c2 => intro u hu; simp at hu; subst hu; rfl
              case c3 => unfold maxLen; omega
              case c4 => omega
              case c5 => simp; omega
              intro v' w2 hown' hgrow _
              have HO2 : Hid (w2.ownsRow w.heap.size 5 1 v' (acc ++ [o.getD (i + 1) 0]).length (Lib.byteCells (acc ++ [o.getD (i + 1) 0]))) := by
                rw [bcapp, List.length_append]; exact hown'
              have HB2 : Hid (Below w.heap.size w w2) := (HB.out.alloc hsz _).grown hgrow (by simp; omega) (fun k hk => (hown.lt k hk).1)
              clear hown' hgrow hown
              go_wp2
              go_roundw
              case rel => exact ⟨i + 2, f, false, _, by go_num, rfl, HO2.out, HB2.out, by rw [show decide (i + 2 = 0) = false by simp]; exact X5.out, by omega, by omega, by simp; omega⟩
              case measure => simp [intOf]; omega
            · have b32 : (bt o (i + 1) == 32) = false := by simp; omega
              have b35 : (bt o (i + 1) == 35) = true := by simpa using h
              clear h HOK
              go_wp2_with (first | (go_at_call 31; refine (spec_any _ _).mono ?_; rintro e w' ⟨rfl, hw⟩; have hw2 := hw.symm; subst hw2; clear hw) | (at_builtin; refine wpList_append_own _ rfl _ _ 22 rfl w.heap.size 5 i0 (.int .u8 0) 1 1 Try.underlying22 hi hz0 hz1 hz2 rfl (by decide) _ _ _ rfl (hown.alloc _) ⟨wr.heap.size, 0, none⟩ 1 1 [.int .u8 (bt o (i + 1))] rfl rfl ?c1 ?c2 ?c3 ?c4 ?c5 ?_))
              case c1 =>
                intro q u hq
                match q, hq with
                | 0, hq => simp at hq; subst hq; simp [Addr.add]
              case c2 => intro u hu; simp at hu; subst hu; rfl
              case c3 => unfold maxLen; omega
              case c4 => omega
              case c5 => simp; omega
              intro v' w2 hown' hgrow _
              have HO2 : Hid (w2.ownsRow w.heap.size 5 1 v' (acc ++ [o.getD (i + 1) 0]).length (Lib.byteCells (acc ++ [o.getD (i + 1) 0]))) := by
                rw [bcapp, List.length_append]; exact hown'
              have HB2 : Hid (Below w.heap.size w w2) := (HB.out.alloc hsz _).grown hgrow (by simp; omega) (fun k hk => (hown.lt k hk).1)
              clear hown' hgrow hown
              go_wp2
              go_roundw
              case rel => exact ⟨i + 2, f, false, _, by go_num, rfl, HO2.out, HB2.out, by rw [show decide (i + 2 = 0) = false by simp]; exact X5.out, by omega, by omega, by simp; omega⟩
              case measure => simp [intOf]; omega
            · have b32 : (bt o (i + 1) == 32) = false := by simp; omega
              have b35 : (bt o (i + 1) == 35) = false := by simp; omega
              have b61 : (bt o (i + 1) == 61) = true := by simpa using h
              clear h HOK
              go_wp2_with (first | (go_at_call 31; refine (spec_any _ _).mono ?_; rintro e w' ⟨rfl, hw⟩; have hw2 := hw.symm; subst hw2; clear hw) | (at_builtin; refine wpList_append_own _ rfl _ _ 22 rfl w.heap.size 5 i0 (.int .u8 0) 1 1 Try.underlying22 hi hz0 hz1 hz2 rfl (by decide) _ _ _ rfl (hown.alloc _) ⟨wr.heap.size, 0, none⟩ 1 1 [.int .u8 (bt o (i + 1))] rfl rfl ?c1 ?c2 ?c3 ?c4 ?c5 ?_))
              case c1 =>
                intro q u hq
                match q, hq with
                | 0, hq => simp at hq; subst hq; simp [Addr.add]
              case c2 => intro u hu; simp at hu; subst hu; rfl
              case c3 => unfold maxLen; omega
              case c4 => omega
              case c5 => simp; omega
              intro v' w2 hown' hgrow _
              have HO2 : Hid (w2.ownsRow w.heap.size 5 1 v' (acc ++ [o.getD (i + 1) 0]).length (Lib.byteCells (acc ++ [o.getD (i + 1) 0]))) := by
                rw [bcapp, List.length_append]; exact hown'
              have HB2 : Hid (Below w.heap.size w w2) := (HB.out.alloc hsz _).grown hgrow (by simp; omega) (fun k hk => (hown.lt k hk).1)
              clear hown' hgrow hown
              go_wp2
              go_roundw
              case rel => exact ⟨i + 2, f, false, _, by go_num, rfl, HO2.out, HB2.out, by rw [show decide (i + 2 = 0) = false by simp]; exact X5.out, by omega, by omega, by simp; omega⟩
              case measure => simp [intOf]; omega
          · clear HOK
            go_wp2_with (first | (go_at_call 31; refine (spec_any _ _).mono ?_; rintro e w' ⟨rfl, hw⟩; have hw2 := hw.symm; subst hw2; clear hw) | (at_builtin; refine wpList_append_own _ rfl _ _ 22 rfl w.heap.size 5 i0 (.int .u8 0) 1 1 Try.underlying22 hi hz0 hz1 hz2 rfl (by decide) _ _ _ rfl (hown.alloc _) ⟨wr.heap.size, 0, none⟩ 1 1 [.int .u8 (bt o (i + 1))] rfl rfl ?c1 ?c2 ?c3 ?c4 ?c5 ?_))
            case c1 =>
              intro q u hq
              match q, hq with
              | 0, hq => simp at hq; subst hq; simp [Addr.add]
            case c2 => intro u hu; simp at hu; subst hu; rfl
            case c3 => unfold maxLen; omega
            case c4 => omega
            case c5 => simp; omega
            intro v' w2 hown' hgrow _
            have HO2 : Hid (w2.ownsRow w.heap.size 5 1 v' (acc ++ [o.getD (i + 1) 0]).length (Lib.byteCells (acc ++ [o.getD (i + 1) 0]))) := by
              rw [bcapp, List.length_append]; exact hown'
            have HB2 : Hid (Below w.heap.size w w2) := (HB.out.alloc hsz _).grown hgrow (by simp; omega) (fun k hk => (hown.lt k hk).1)
            clear hown' hgrow hown
            go_wp2
            go_roundw
            case rel => exact ⟨i + 2, f, false, _, by go_num, rfl, HO2.out, HB2.out, by rw [show decide (i + 2 = 0) = false by simp]; exact X5.out, by omega, by omega, by simp; omega⟩
            case measure => simp [intOf]; omega
      · have b92 : (bt o i == 92) = false := by simpa using x1
        have hbp := x2
        unfold badP at hbp
        simp only [Bool.or_eq_false_iff, decide_eq_false_iff_not] at hbp
        have hs : spB (bt o i) = false := hbp.1
        have d32 : decide (bt o i < 32) = false := by have := hbp.2; simp; omega
        have b127 : (bt o i == 127) = false := by have := hbp.2; simp; omega
        have X3 := hide x3
        have X4 := hide x4
        clear hbp x1 x2 x3 x4
        by_cases h32 : bt o i = 32
        · have b32 : (bt o i == 32) = true := by simpa using h32
          have X5 : Hid (rd f false true (acc ++ [o.getD i 0]) (o.drop (i + 1)) = some R) := by
            have h := X4.out
            rw [show decide (bt o i = 32) = true by simpa using h32] at h
            exact h
          have bz : ((i : Int) == 0) = false := by
            have h := X3.out
            simp only [decide_eq_true_eq] at h
            simp; omega
          clear X3 X4 h32
          go_wp2_with (first | (go_at_call 31; refine (spec_any _ _).mono ?_; rintro e w' ⟨rfl, hw⟩; have hw2 := hw.symm; subst hw2; clear hw) | (at_builtin; refine wpList_append_own _ rfl _ _ 22 rfl w.heap.size 5 i0 (.int .u8 0) 1 1 Try.underlying22 hi hz0 hz1 hz2 rfl (by decide) _ _ _ rfl (hown.alloc _) ⟨wr.heap.size, 0, none⟩ 1 1 [.int .u8 (bt o i)] rfl rfl ?c1 ?c2 ?c3 ?c4 ?c5 ?_))
          case c1 =>
            intro q u hq
            match q, hq with
            | 0, hq => simp at hq; subst hq; simp [Addr.add]
          case c2 => intro u hu; simp at hu; subst hu; rfl
          case c3 => unfold maxLen; omega
          case c4 => omega
          case c5 => simp; omega
          intro v' w2 hown' hgrow _
          have HO2 : Hid (w2.ownsRow w.heap.size 5 1 v' (acc ++ [o.getD i 0]).length (Lib.byteCells (acc ++ [o.getD i 0]))) := by
            rw [bcapp, List.length_append]; exact hown'
          have HB2 : Hid (Below w.heap.size w w2) := (HB.out.alloc hsz _).grown hgrow (by simp; omega) (fun k hk => (hown.lt k hk).1)
          clear hown' hgrow hown
          go_wp2
          go_roundw
          case rel => exact ⟨i + 1, f, true, _, by go_num, rfl, HO2.out, HB2.out, by rw [show decide (i + 1 = 0) = false by simp]; exact X5.out, by omega, by omega, by simp; omega⟩
          case measure => simp [intOf]; omega
        · have b32 : (bt o i == 32) = false := by simpa using h32
          have X5 : Hid (rd f false false (acc ++ [o.getD i 0]) (o.drop (i + 1)) = some R) := by
            have h := X4.out
            rw [show decide (bt o i = 32) = false by simpa using h32] at h
            exact h
          by_cases hz : i = 0
          · have bz : ((i : Int) == 0) = true := by simp; omega
            have b35 : (bt o i == 35) = false := by
              have h := X3.out
              simp only [decide_eq_true_eq] at h
              simp; omega
            clear X3 X4 h32 hz
            go_wp2_with (first | (go_at_call 31; refine (spec_any _ _).mono ?_; rintro e w' ⟨rfl, hw⟩; have hw2 := hw.symm; subst hw2; clear hw) | (at_builtin; refine wpList_append_own _ rfl _ _ 22 rfl w.heap.size 5 i0 (.int .u8 0) 1 1 Try.underlying22 hi hz0 hz1 hz2 rfl (by decide) _ _ _ rfl (hown.alloc _) ⟨wr.heap.size, 0, none⟩ 1 1 [.int .u8 (bt o i)] rfl rfl ?c1 ?c2 ?c3 ?c4 ?c5 ?_))
            case c1 =>
              intro q u hq
              match q, hq with
              | 0, hq => simp at hq; subst hq; simp [Addr.add]
            case c2 => intro u hu; simp at hu; subst hu; rfl
            case c3 => unfold maxLen; omega
            case c4 => omega
            case c5 => simp; omega
            intro v' w2 hown' hgrow _
            have HO2 : Hid (w2.ownsRow w.heap.size 5 1 v' (acc ++ [o.getD i 0]).length (Lib.byteCells (acc ++ [o.getD i 0]))) := by
              rw [bcapp, List.length_append]; exact hown'
            have HB2 : Hid (Below w.heap.size w w2) := (HB.out.alloc hsz _).grown hgrow (by simp; omega) (fun k hk => (hown.lt k hk).1)
            clear hown' hgrow hown
            go_wp2
            go_roundw
            case rel => exact ⟨i + 1, f, false, _, by go_num, rfl, HO2.out, HB2.out, by rw [show decide (i + 1 = 0) = false by simp]; exact X5.out, by omega, by omega, by simp; omega⟩
            case measure => simp [intOf]; omega
          · have bz : ((i : Int) == 0) = false := by simp; omega
            clear X3 X4 h32 hz
            go_wp2_with (first | (go_at_call 31; refine (spec_any _ _).mono ?_; rintro e w' ⟨rfl, hw⟩; have hw2 := hw.symm; subst hw2; clear hw) | (at_builtin; refine wpList_append_own _ rfl _ _ 22 rfl w.heap.size 5 i0 (.int .u8 0) 1 1 Try.underlying22 hi hz0 hz1 hz2 rfl (by decide) _ _ _ rfl (hown.alloc _) ⟨wr.heap.size, 0, none⟩ 1 1 [.int .u8 (bt o i)] rfl rfl ?c1 ?c2 ?c3 ?c4 ?c5 ?_))
            case c1 =>
              intro q u hq
              match q, hq with
              | 0, hq => simp at hq; subst hq; simp [Addr.add]
            case c2 => intro u hu; simp at hu; subst hu; rfl
            case c3 => unfold maxLen; omega
            case c4 => omega
            case c5 => simp; omega
            intro v' w2 hown' hgrow _
            have HO2 : Hid (w2.ownsRow w.heap.size 5 1 v' (acc ++ [o.getD i 0]).length (Lib.byteCells (acc ++ [o.getD i 0]))) := by
              rw [bcapp, List.length_append]; exact hown'
            have HB2 : Hid (Below w.heap.size w w2) := (HB.out.alloc hsz _).grown hgrow (by simp; omega) (fun k hk => (hown.lt k hk).1)
            clear hown' hgrow hown
            go_wp2
            go_roundw
            case rel => exact ⟨i + 1, f, false, _, by go_num, rfl, HO2.out, HB2.out, by rw [show decide (i + 1 = 0) = false by simp]; exact X5.out, by omega, by omega, by simp; omega⟩
            case measure => simp [intOf]; omega
    · have hil : o.drop i = [] := List.drop_eq_nil_of_le (by omega)
      rw [hil] at hrd
      have hfin : psl = false ∧ acc = R := by
        cases f with
        | zero => rw [rd, if_pos rfl] at hrd; cases psl <;> simp at hrd; exact ⟨rfl, hrd⟩
        | succ f => rw [rd, if_pos rfl] at hrd; cases psl <;> simp at hrd; exact ⟨rfl, hrd⟩
      obtain ⟨rfl, rfl⟩ := hfin
      have HO := hide hown
      clear hrd hil hol hown
      go_wp2
      go_ret2
      exact ⟨_, rfl, HO.out, HB.out⟩
end Go.Proofs.Qxb6601896a
