/- The walk of FnWriteEscapedOutputIsUTF8AndBounded. -/
import Derived.Test.Qxb6601896aZz18
import Derived.Test.Qxb6601896aSeq
namespace Go.Proofs.Qxb6601896a
open Go.RowKit
set_option linter.unusedVariables false

theorem row_cells (l : List UInt8) (sb : ByteArray) (hsb : (⟨l.toArray⟩ : ByteArray) = sb) (W : World) (cap : Nat) (fz : Nat × Nat) :
    ∀ j, j < l.length → (W.alloc (.cells (bytesRow sb cap) 5 fz)).cell? ⟨W.heap.size, j, none⟩ = some (.int .u8 (bt l j)) := by
  intro j hj
  subst hsb
  have h : (W.alloc (.cells (bytesRow ⟨l.toArray⟩ cap) 5 fz)).heap[W.heap.size]? = some (.cells (bytesRow ⟨l.toArray⟩ cap) 5 fz) := by
    show (W.heap.push _)[W.heap.size]? = _
    simp
  rw [Lib.cell_of_heap h, bytesRow_at _ _ _ (by show j < l.toArray.size; simpa using hj)]
  unfold bt
  simp [List.getD, List.getElem?_eq_getElem hj]

theorem wf_true (b n cap : Nat) (l : List UInt8) (w : World) (hn : l.length ≤ 4194304) (hc : ∀ j, j < l.length → w.cell? ⟨b, j, none⟩ = some (.int .u8 (bt l j))) (hl : n = l.length) (hw : ∀ f, wfL f l = true) :
    Calls Try.prog 22 #[.slice (some ⟨b, 0, none⟩) n cap] w fun e w' => e = .returned (.bool true) ∧ w' = w := by
  subst hl
  refine (wf_any b cap l w hn hc).mono ?_
  rintro e w' ⟨f, _, rfl, rfl⟩
  exact ⟨by rw [hw f], rfl⟩

set_option maxHeartbeats 1000000 in
set_option maxRecDepth 100000 in
theorem bnd_walk (a : Option Addr) (len cap : Nat) (zs : List Int) (w : World) (hr : InRow w a len cap zs) :
    Calls Try.prog 7 #[.slice a len cap] w fun e w' => e = .returned (.bool true) ∧ Below w.heap.size w w' := by
  have hmx : len ≤ maxLen := by
    rcases hr with ⟨_, rfl, _, _⟩ | ⟨x, _, h1, h2, _⟩
    · exact Nat.zero_le _
    · omega
  have HZ := hide (fun W => sizes21 a len cap W hmx)
  by_cases hsum : len ≤ 1048576
  · rw [show decide (len ≤ 1048576) = true by simpa using hsum] at HZ
    by_cases h16 : len ≤ 65536
    · have c1 : decide ((65536 : Int) < (len : Int)) = false := by simp; omega
      have HC := hide (clone_any a len cap zs w hr hsum)
      have hlen := inBytes_len hr
      obtain ⟨l, hl⟩ : ∃ l, inBytes len zs = l := ⟨_, rfl⟩
      rw [hl] at HC hlen
      obtain ⟨k1, k2, k3⟩ := esc_ok l
      obtain ⟨sb, hsb⟩ : ∃ sb : ByteArray, (⟨(esc l).toArray⟩ : ByteArray) = sb := ⟨_, rfl⟩
      have hsz : sb.size = (esc l).length := by rw [← hsb]; exact size_mk _
      have HSB := hide hsb
      have HSZ := hide hsz
      have K1 := hide k1
      have s1 : l.length ≤ sb.size := by omega
      have s2 : sb.size ≤ 3 * l.length := by omega
      have hl16 : l.length ≤ 65536 := by omega
      have hcv := fun W => run_bytes_of_string (P := Try.prog) W 9 22 5 sb Try.underlying9 Try.underlying22 Try.underlying5
      clear hr hmx hl hsz k1 k2 k3 hsb
      subst hlen
      go_enter Try.func7, Try.ntmps7
      go_wp2_with (first | (go_at_call 21; refine (HZ.out _).mono ?_; rintro e w' ⟨rfl, hw⟩; have hw2 := hw.symm; subst hw2; clear hw) | (go_at_call 10; refine HC.out.mono ?_; rintro e W1 ⟨v, rfl, hv, hb1⟩))
      obtain ⟨ao, cp, rfl⟩ := bs_shape hv
      have H18 := hide (zz18 _ l W1 (by omega) hv)
      rw [HSB.out] at H18
      have H18' := hide H18.out
      clear H18 hv
      go_wp2_with (go_at_call 18; refine H18'.out.mono ?_; rintro e W2 ⟨rfl, hb2⟩)
      refine (wf_true W2.heap.size sb.size _ (esc l) _ (by have := HSZ.out; omega) (by intro j hj; exact row_cells (esc l) sb HSB.out W2 _ _ j hj) HSZ.out K1.out).mono ?_
      rintro e w' ⟨rfl, hw⟩
      have hw2 := hw.symm
      subst hw2
      clear hw
      go_wp2
      go_ret
      exact ⟨rfl, ((hb1.trans (hb2.mono hb1.size)).alloc (by have := hb1.size; have := hb2.size; omega) _).drew⟩
    · have c1 : decide ((65536 : Int) < (len : Int)) = true := by simp; omega
      go_enter Try.func7, Try.ntmps7
      go_wp2_with (go_at_call 21; refine (HZ.out _).mono ?_; rintro e w' ⟨rfl, hw⟩; have hw2 := hw.symm; subst hw2; clear hw)
      go_ret
      exact ⟨rfl, Below.refl _ _⟩
  · rw [show decide (len ≤ 1048576) = false by simpa using hsum] at HZ
    go_enter Try.func7, Try.ntmps7
    go_wp2_with (go_at_call 21; refine (HZ.out _).mono ?_; rintro e w' ⟨rfl, hw⟩; have hw2 := hw.symm; subst hw2; clear hw)
    go_ret
    exact ⟨rfl, Below.refl _ _⟩
end Go.Proofs.Qxb6601896a
