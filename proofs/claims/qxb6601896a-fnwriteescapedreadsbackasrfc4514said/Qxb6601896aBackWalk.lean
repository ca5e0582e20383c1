/- The walk of FnWriteEscapedReadsBackAsRFC4514. -/
import Derived.Test.Qxb6601896aZz18
import Derived.Test.Qxb6601896aRdv
namespace Go.Proofs.Qxb6601896a
open Go.RowKit
set_option linter.unusedVariables false

theorem BS.up {B B' : Nat} {w : World} {v : Value} {l : List UInt8} (h : BS B w v l) (hB : B ≤ B') : BS B' w v l := by
  rcases h with h | ⟨b, cap, h1, h2, h3, h4⟩
  · exact Or.inl h
  · exact Or.inr ⟨b, cap, h1, h2, by omega, h4⟩

theorem bs_in {B : Nat} {w : World} {ao : Option Addr} {cap : Nat} {l : List UInt8} (h : BS B w (.slice ao l.length cap) l) (h0 : 0 < l.length) :
    ∃ b, ao = some ⟨b, 0, none⟩ ∧ b < B ∧ ∀ j, j < l.length → w.cell? ⟨b, j, none⟩ = some (.int .u8 (bt l j)) := by
  rcases h with ⟨h1, h2⟩ | ⟨b, c, h1, _, h3, h4⟩
  · injection h1 with _ h3 _; omega
  · injection h1 with h5 h6 h7
    exact ⟨b, h5, h3, h4⟩

set_option maxHeartbeats 1000000 in
set_option maxRecDepth 100000 in
theorem back_walk (a : Option Addr) (len cap : Nat) (zs : List Int) (w : World) (hr : InRow w a len cap zs) :
    Calls Try.prog 6 #[.slice a len cap] w fun e w' => e = .returned (.bool true) ∧ Below w.heap.size w w' := by
  have hmx : len ≤ maxLen := by
    rcases hr with ⟨_, rfl, _, _⟩ | ⟨x, _, h1, h2, _⟩
    · exact Nat.zero_le _
    · omega
  have HZ := hide (fun W => sizes17 a len cap W hmx)
  by_cases hsum : len ≤ 1048576
  · rw [show decide (len ≤ 1048576) = true by simpa using hsum] at HZ
    by_cases h16 : len ≤ 65536
    · have c1 : decide ((65536 : Int) < (len : Int)) = false := by simp; omega
      have HC := hide (clone_any a len cap zs w hr hsum)
      have hlen := inBytes_len hr
      obtain ⟨l, hl⟩ : ∃ l, inBytes len zs = l := ⟨_, rfl⟩
      rw [hl] at HC hlen
      obtain ⟨_, k2, k3⟩ := esc_ok l
      have hl16 : l.length ≤ 65536 := by omega
      have hsan : (san l).length ≤ 4194304 := by have := sanR_len l.length l; show (sanR l.length l).length ≤ _; omega
      obtain ⟨sb, hsb⟩ : ∃ sb : ByteArray, (⟨(esc l).toArray⟩ : ByteArray) = sb := ⟨_, rfl⟩
      have hdl : sb.data.toList = esc l := by rw [← hsb]
      have hsz : sb.size ≤ 262144 := by rw [← hsb, size_mk]; omega
      have HRD : Hid (rd sb.data.toList.length true false [] sb.data.toList = some (san l)) := by
        show _ = _
        rw [hdl]; exact rd_esc l _ (Nat.le_refl _)
      have H19 := hide (fun W => rdv_any sb (san l) W hsz HRD)
      have HSB := hide hsb
      clear hr hmx hl k2 k3 hsb hdl hsz HRD
      subst hlen
      go_enter Try.func6, Try.ntmps6
      go_wp2_with (first | (go_at_call 17; refine (HZ.out _).mono ?_; rintro e w' ⟨rfl, hw⟩; have hw2 := hw.symm; subst hw2; clear hw) | (go_at_call 10; refine HC.out.mono ?_; rintro e W1 ⟨v, rfl, hv, hb1⟩))
      obtain ⟨ao, cp, rfl⟩ := bs_shape hv
      have H18 := hide (zz18 _ l W1 (by omega) hv)
      rw [HSB.out] at H18
      have HV := hide hv
      clear hv
      go_wp2_with (first | (go_at_call 18; refine H18.out.mono ?_; rintro e W2 ⟨rfl, hb2⟩) | (go_at_call 19; refine (H19.out _).mono ?_; rintro e W3 ⟨v1, rfl, hv1, hb3⟩))
      have h12 : W1.heap.size ≤ W2.heap.size := hb2.size
      have h23 : W2.heap.size ≤ W3.heap.size := hb3.size
      have h01 : w.heap.size ≤ W1.heap.size := hb1.size
      have hvc : BS W1.heap.size W3 (.slice ao l.length cp) l := (HV.out.on hb2 (Nat.le_refl _)).on hb3 h12
      have H20 := hide (san_any ao cp l W3 hl16 (fun h0 => by
        obtain ⟨b, x1, x2, x3⟩ := bs_in hvc h0
        exact ⟨b, x1, by omega, x3⟩))
      have HB3 := hide (own_bs hv1)
      clear hvc hv1
      go_wp2_with (go_at_call 20; refine H20.out.mono ?_; rintro e W4 ⟨v2, rfl, hv2, hb4⟩)
      have h34 : W3.heap.size ≤ W4.heap.size := hb4.size
      refine (same_any W4.heap.size v1 v2 (san l) W4 hsan ((HB3.out.on hb4 (Nat.le_refl _)).up h34) (own_bs hv2)).mono ?_
      rintro e w' ⟨rfl, m, hw⟩
      subst hw
      clear hv2
      go_wp2
      go_ret
      exact ⟨rfl, ((hb1.trans (hb2.mono h01)).trans (hb3.mono (by omega))).trans ((hb4.mono (by omega)).trans (below_dn W4 m))⟩
    · have c1 : decide ((65536 : Int) < (len : Int)) = true := by simp; omega
      go_enter Try.func6, Try.ntmps6
      go_wp2_with (go_at_call 17; refine (HZ.out _).mono ?_; rintro e w' ⟨rfl, hw⟩; have hw2 := hw.symm; subst hw2; clear hw)
      go_ret
      exact ⟨rfl, Below.refl _ _⟩
  · rw [show decide (len ≤ 1048576) = false by simpa using hsum] at HZ
    go_enter Try.func6, Try.ntmps6
    go_wp2_with (go_at_call 17; refine (HZ.out _).mono ?_; rintro e w' ⟨rfl, hw⟩; have hw2 := hw.symm; subst hw2; clear hw)
    go_ret
    exact ⟨rfl, Below.refl _ _⟩
end Go.Proofs.Qxb6601896a
