/- zzSanitize. -/
import Derived.Test.Qxb6601896aHex
import Derived.OwnWalk
namespace Go.Proofs.Qxb6601896a
open Go.RowKit
set_option linter.unusedVariables false

/-- What a function that builds bytes leaves. -/
def Built (l : List UInt8) (w : World) (v : Value) (w' : World) : Prop := w'.ownsRow w.heap.size 5 1 v l.length (Lib.byteCells l) ∧ Below w.heap.size w w'

theorem own_bs {B : Nat} {w : World} {v : Value} {l : List UInt8} (h : w.ownsRow B 5 1 v l.length (Lib.byteCells l)) : BS w.heap.size w v l := by
  rcases h.2 with ⟨h1, h2⟩ | ⟨g, cap, cur, h1, h2, h3, h4, h5, h6, h7⟩
  · exact Or.inl ⟨h1, List.length_eq_zero_iff.1 h2⟩
  · refine Or.inr ⟨g, cap, h1, h4, (Array.getElem?_eq_some_iff.1 h3).1, fun j hj => ?_⟩
    rw [Lib.cell_of_heap h3]
    have e : (cur.toList.take (l.length * 1))[j]? = (Lib.byteCells l)[j]? := by rw [h7]
    rw [List.getElem?_take, if_pos (by omega)] at e
    rw [← Array.getElem?_toList, e]
    unfold Lib.byteCells bt
    simp [List.getD, List.getElem?_eq_getElem hj]

theorem bcapp (a b : List UInt8) : Lib.byteCells (a ++ b) = Lib.byteCells a ++ Lib.byteCells b := Lib.byteCells_append a b

def SanPost (l : List UInt8) (w : World) (e : Ending) (w' : World) : Prop := ∃ v', e = .returned v' ∧ Built l w v' w'

set_option maxHeartbeats 4000000 in
set_option maxRecDepth 100000 in
theorem san_any (ao : Option Addr) (cap : Nat) (l : List UInt8) (w : World) (hn : l.length ≤ 65536) (hc : 0 < l.length → ∃ b, ao = some ⟨b, 0, none⟩ ∧ b < w.heap.size ∧ ∀ j, j < l.length → w.cell? ⟨b, j, none⟩ = some (.int .u8 (bt l j))) :
    Calls Try.prog 20 #[.slice ao l.length cap] w fun e w' => SanPost (san l) w e w' := by
  obtain ⟨i0, hi, hz0, hz1, hz2⟩ := info_parts Try.info5
  have HC := hide hc
  clear hc
  go_enter Try.func20, Try.ntmps20
  go_wp2
  go_loopw [3, 4] (fun v vi wr => ∃ (i g : Nat) (acc : List UInt8), vi = .int .i64 i ∧ Hid (wr.ownsRow w.heap.size 5 1 v acc.length (Lib.byteCells acc)) ∧ Hid (Below w.heap.size w wr) ∧ Hid (acc ++ sanR g (l.drop i) = san l) ∧ l.length ≤ i + g ∧ i ≤ l.length ∧ acc.length ≤ 3 * i)
    (fun _ vi _ => l.length - (intOf vi).toNat)
  case atStart => exact ⟨0, l.length, [], rfl, World.ownsRow_nil _ _ _ _, Below.refl _ _, rfl, by omega, Nat.zero_le _, Nat.zero_le _⟩
  case round =>
    obtain ⟨i, g, acc, rfl, HO, HB, HA, hg, hil, hal⟩ := hrel
    by_cases hlt : i < l.length
    · obtain ⟨b, rfl, hbw, hcell⟩ := HC.out (by omega)
      have HCC := hide hcell
      have hle := seqAt_le l i hlt
      have HS := hide (fun W h => seq_any b cap i l W (by omega) hlt h)
      have hne : l.drop i ≠ [] := by intro e; have := congrArg List.length e; rw [List.length_drop] at this; simp at this; omega
      obtain ⟨g, rfl⟩ : ∃ g', g = g' + 1 := ⟨g - 1, by omega⟩
      have hst := HA.out
      rw [sanR, if_neg hne, ← seqAt_drop] at hst
      obtain ⟨k, hk⟩ : ∃ k, seqAt l i = k := ⟨_, rfl⟩
      rw [hk] at HS hle hst
      have HW : Hid (∀ j, j < l.length → wr.cell? ⟨b, j, none⟩ = some (.int .u8 (bt l j))) := fun j hj => (HB.out.cell (p := ⟨b, j, none⟩) hbw).trans (HCC.out j hj)
      have hsz : w.heap.size ≤ wr.heap.size := HB.out.size
      clear hcell hne hk HA
      by_cases hk0 : k = 0
      · subst hk0
        rw [if_pos rfl, List.drop_drop] at hst
        have HT := hide hst
        have hown := HO.out
        clear hst
        go_wp2_with (first | (go_at_call 32; refine (HS.out _ HW.out).mono ?_; rintro e w' ⟨rfl, hw⟩; have hw2 := hw.symm; subst hw2; clear hw) | (at_builtin; refine wpList_append_own _ rfl _ _ 22 rfl w.heap.size 5 i0 (.int .u8 0) 1 1 Try.underlying22 hi hz0 hz1 hz2 rfl (by decide) _ _ _ rfl (hown.alloc _) ⟨wr.heap.size, 0, none⟩ 3 3 [.int .u8 239, .int .u8 191, .int .u8 189] rfl rfl ?c1 ?c2 ?c3 ?c4 ?c5 ?_))
        case c1 =>
          intro j u hj
          match j, hj with
          | 0, hj => simp at hj; subst hj; simp [Addr.add]
          | 1, hj => simp at hj; subst hj; simp [Addr.add]
          | 2, hj => simp at hj; subst hj; simp [Addr.add]
          | (j + 3), hj => simp at hj
        case c2 => intro u hu; simp at hu; rcases hu with rfl | rfl | rfl <;> rfl
        case c3 => unfold maxLen; omega
        case c4 => omega
        case c5 => simp; omega
        intro v' w2 hown' hgrow _
        have HO2 : Hid (w2.ownsRow w.heap.size 5 1 v' (acc ++ [239, 191, 189]).length (Lib.byteCells (acc ++ [239, 191, 189]))) := by
          rw [bcapp, List.length_append]; exact hown'
        have HB2 : Hid (Below w.heap.size w w2) := (HB.out.alloc hsz _).grown hgrow (by simp; omega) (fun k hk => (hown.lt k hk).1)
        clear hown' hgrow hown
        go_wp2
        go_roundw
        case rel => exact ⟨i + 1, g, acc ++ [239, 191, 189], by go_num, HO2, HB2, by show _ ++ _ = _; rw [List.append_assoc]; exact HT.out, by omega, by omega, by simp; omega⟩
        case measure => simp [intOf]; omega
      · rw [if_neg hk0, List.drop_drop] at hst
        have HT := hide hst
        have k0 : ((k : Int) == 0) = false := by simp; omega
        have kp : 0 < k := by omega
        clear hst hk0
        go_wp2_with (go_at_call 32; refine (HS.out _ HW.out).mono ?_; rintro e w' ⟨rfl, hw⟩; have hw2 := hw.symm; subst hw2; clear hw)
        go_loopw [3, 6] (fun v vj wx => ∃ j : Nat, vj = .int .i64 j ∧ j ≤ k ∧ Hid (wx.ownsRow w.heap.size 5 1 v (acc ++ (l.drop i).take j).length (Lib.byteCells (acc ++ (l.drop i).take j))) ∧ Hid (Below w.heap.size w wx)) (fun _ vj _ => k - (intOf vj).toNat)
        case atStart => exact ⟨0, rfl, Nat.zero_le _, by show World.ownsRow _ _ _ _ _ _ _; simpa using HO.out, HB⟩
        case round =>
          clear HO HB HW hsz
          obtain ⟨j, rfl, hjk, HO, HB⟩ := hrel
          by_cases hj : j < k
          · have c1 : wr.cell? ⟨b, i + j, none⟩ = some (.int .u8 (bt l (i + j))) := (HB.out.cell (p := ⟨b, i + j, none⟩) hbw).trans (HCC.out (i + j) (by omega))
            have hown := HO.out
            have hsz : w.heap.size ≤ wr.heap.size := HB.out.size
            have hll : (acc ++ (l.drop i).take j).length ≤ 262144 := by rw [List.length_append, List.length_take, List.length_drop]; omega
            obtain ⟨A, hA⟩ : ∃ A, acc ++ (l.drop i).take j = A := ⟨_, rfl⟩
            have HAA : Hid (acc ++ (l.drop i).take (j + 1) = A ++ [l.getD (i + j) 0]) := by
              show _ = _
              rw [← hA, List.append_assoc]
              congr 1
              rw [List.take_succ_eq_append_getElem (by rw [List.length_drop]; omega)]
              simp [List.getD, List.getElem?_eq_getElem (show i + j < l.length by omega)]
            rw [hA] at hown hll
            clear hA HO
            go_wp2_with (at_builtin; refine wpList_append_own _ rfl _ _ 22 rfl w.heap.size 5 i0 (.int .u8 0) 1 1 Try.underlying22 hi hz0 hz1 hz2 rfl (by decide) _ _ _ rfl (hown.alloc _) ⟨wr.heap.size, 0, none⟩ 1 1 [.int .u8 (bt l (i + j))] rfl rfl ?d1 ?d2 ?d3 ?d4 ?d5 ?_)
            case d1 =>
              intro q u hq
              match q, hq with
              | 0, hq => simp at hq; subst hq; simp [Addr.add]
            case d2 => intro u hu; simp at hu; subst hu; rfl
            case d3 => unfold maxLen; omega
            case d4 => omega
            case d5 => simp; omega
            intro v' w2 hown' hgrow _
            have HO2 : Hid (w2.ownsRow w.heap.size 5 1 v' (acc ++ (l.drop i).take (j + 1)).length (Lib.byteCells (acc ++ (l.drop i).take (j + 1)))) := by
              rw [HAA.out, bcapp, List.length_append]; exact hown'
            have HB2 : Hid (Below w.heap.size w w2) := (HB.out.alloc hsz _).grown hgrow (by simp; omega) (fun k hk => (hown.lt k hk).1)
            clear hown' hgrow hown HAA HB
            go_wp2
            go_roundw
            case rel => exact ⟨j + 1, by go_num, by omega, HO2, HB2⟩
            case measure => simp [intOf]; omega
          · have hjk2 : j = k := by omega
            have HO2 := hide HO.out
            rw [hjk2] at HO2
            clear hjk2 HO
            have hlen : (acc ++ (l.drop i).take k).length ≤ 3 * (i + k) := by rw [List.length_append, List.length_take, List.length_drop]; omega
            go_wp2
            go_roundw
            case rel => exact ⟨i + k, g, _, by go_num, HO2, HB, by show _ ++ _ = _; rw [List.append_assoc]; exact HT.out, by omega, by omega, hlen⟩
            case measure => simp [intOf]; omega
    · have HF : Hid (acc = san l) := by
        have h := HA.out
        rw [List.drop_eq_nil_of_le (by omega)] at h
        have e : sanR g [] = [] := by cases g <;> rfl
        rw [e, List.append_nil] at h
        exact h
      have HO2 := hide HO.out
      rw [HF.out] at HO2
      clear HO
      go_wp2
      go_ret
      exact ⟨_, rfl, HO2.out, HB.out⟩
end Go.Proofs.Qxb6601896a
