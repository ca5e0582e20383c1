/- bytes.IndexByte at a line feed. -/
import Derived.Test.Qxb6602170aProg
import Derived.WalkKit
import Derived.WalkSpells
import Derived.Below
import Derived.Lib.BytesEntry
import Derived.Lib.IndexLaws
import Derived.Shelf.Bytes.SlIndexAt
namespace Go.Proofs.Qxb6602170a
open Go.RowKit
set_option linter.unusedVariables false

theorem hide {p : Prop} (h : p) : Hid p := h

theorem Try.info5 : (Try.prog.info? 5).map (fun i => (i.zero, i.size, i.bytes)) = some (some (.int .u8 0), 1, 1) := by kernel_rfl

theorem add_none (b o i : Nat) : (⟨b, o, none⟩ : Addr).add i = ⟨b, o + i, none⟩ := by
  unfold Addr.add
  split <;> simp_all

/-- The first line feed of the first m bytes of z, or -1. -/
def nl (z : Nat → Int) (m : Nat) : Int := Lib.indexByte (Lib.bytesOf ((List.range m).map z)) 10

theorem nl_cases (z : Nat → Int) (m : Nat) (hz : ∀ j, 0 ≤ z j ∧ z j ≤ 255) :
    (nl z m = -1 ∧ ∀ j, j < m → z j ≠ 10) ∨ ∃ o : Nat, nl z m = o ∧ o < m ∧ z o = 10 ∧ ∀ j, j < o → z j ≠ 10 := by
  have hg : ∀ j, j < m → (Lib.bytesOf ((List.range m).map z))[j]? = some (UInt8.ofNat (z j).toNat) := by
    intro j hj
    simp [Lib.bytesOf, hj]
  have hn : ∀ j, m ≤ j → (Lib.bytesOf ((List.range m).map z))[j]? = none := by
    intro j hj
    rw [List.getElem?_eq_none]; simp [Lib.bytesOf]; exact hj
  have hb : ∀ j, z j = 10 ↔ UInt8.ofNat (z j).toNat = 10 := by
    intro j
    have := hz j
    constructor
    · intro h; rw [h]; rfl
    · intro h
      have h2 := congrArg UInt8.toNat h
      simp at h2
      omega
  have hge := Lib.indexByte_ge (Lib.bytesOf ((List.range m).map z)) 10
  by_cases h : nl z m = -1
  · refine Or.inl ⟨h, fun j hj hc => ?_⟩
    have := Lib.indexByte_none h j
    rw [hg j hj, (hb j).1 hc] at this
    exact this rfl
  · obtain ⟨o, ho⟩ : ∃ o : Nat, nl z m = o := ⟨(nl z m).toNat, by unfold nl at h ⊢; omega⟩
    obtain ⟨h1, h2⟩ := Lib.indexByte_some ho
    have hom : o < m := by
      rcases Nat.lt_or_ge o m with h | h
      · exact h
      · rw [hn o h] at h1; cases h1
    refine Or.inr ⟨o, ho, hom, ?_, fun j hj hc => ?_⟩
    · rw [hg o hom] at h1
      exact (hb o).2 (by simpa using h1)
    · have := h2 j hj
      rw [hg j (by omega), (hb j).1 hc] at this
      exact this rfl

set_option maxHeartbeats 1000000 in
set_option maxRecDepth 100000 in
theorem idx21 (a : Option Addr) (m c : Nat) (z : Nat → Int) (w : World) (ha : 0 < m → ∃ x, a = some x ∧ ∀ j, j < m → w.cell? (x.add j) = some (.int .u8 (z j))) :
    Calls Try.prog 21 #[.slice a m c, .int .u8 10] w fun e w' => e = .returned (.int .i64 (nl z m)) ∧ w' = w := by
  have hlen : ((List.range m).map z).length = m := by simp
  have hgd : ∀ i, i < m → ((List.range m).map z).getD i 0 = z i := by intro i hi; simp [List.getD, hi]
  cases a with
  | none =>
    have hm : m = 0 := by
      rcases Nat.eq_zero_or_pos m with h | h
      · exact h
      · obtain ⟨x, hx, _⟩ := ha h; cases hx
    subst hm
    have hnl : nl z 0 = -1 := rfl
    rw [hnl]
    clear hlen hgd ha hnl
    go_enter Try.func21, Try.ntmps21
    go_wp2
    rw [run_callFunc_extern Try.func23 (by kernel_rfl) (by kernel_rfl) (by kernel_rfl) (e := Extern.BytealgIndexByte.indexByte) (by kernel_rfl), Lib.run_indexByteNil]
    simp only [Result.andThen]
    rw [Oper.upon_value]
    go_wp2
    go_ret
    exact ⟨rfl, rfl⟩
  | some x =>
    have hrun := Lib.run_indexByteAt (P := Try.prog) (w := w) x m c ((List.range m).map z) hlen (fun i hi => by
      obtain ⟨y, hy, hc⟩ := ha (by omega)
      cases hy
      rw [hc i hi, hgd i hi]) 10
    have HR := hide hrun
    unfold nl
    clear hlen hgd ha hrun
    go_enter Try.func21, Try.ntmps21
    go_wp2
    rw [run_callFunc_extern Try.func23 (by kernel_rfl) (by kernel_rfl) (by kernel_rfl) (e := Extern.BytealgIndexByte.indexByte) (by kernel_rfl), HR.out]
    simp only [Result.andThen]
    rw [Oper.upon_value]
    go_wp2
    go_ret
    exact ⟨rfl, rfl⟩
end Go.Proofs.Qxb6602170a
