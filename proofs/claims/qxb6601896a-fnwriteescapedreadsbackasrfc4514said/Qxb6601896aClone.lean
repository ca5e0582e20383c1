/- zzCloneBytes; the bounds ahead; a slice of bytes that a call has made. -/
import Derived.Test.Qxb6601896aEsc
import Derived.Test.Qxb6601896aCont
import Derived.Deep.OwnRows
import Derived.ProofKit
namespace Go.Proofs.Qxb6601896a
open Go.RowKit
set_option linter.unusedVariables false

/-- v is a slice of the bytes l, in a block below B. -/
def BS (B : Nat) (w : World) (v : Value) (l : List UInt8) : Prop :=
  (v = .slice none 0 0 ∧ l = []) ∨
  ∃ b cap, v = .slice (some ⟨b, 0, none⟩) l.length cap ∧ l.length ≤ cap ∧ b < B ∧ ∀ j, j < l.length → w.cell? ⟨b, j, none⟩ = some (.int .u8 (bt l j))

theorem BS.on {B B' : Nat} {w w' : World} {v : Value} {l : List UInt8} (h : BS B w v l) (hb : Below B' w w') (hB : B ≤ B') : BS B w' v l := by
  rcases h with h | ⟨b, cap, h1, h2, h3, h4⟩
  · exact Or.inl h
  · exact Or.inr ⟨b, cap, h1, h2, h3, fun j hj => (hb.cell (p := ⟨b, j, none⟩) (by show b < B'; omega)).trans (h4 j hj)⟩

/-- What is known of a slice of bytes that came in. -/
def InRow (w : World) (a : Option Addr) (len cap : Nat) (zs : List Int) : Prop :=
  (a = none ∧ len = 0 ∧ cap = 0 ∧ zs = []) ∨
  ∃ x, a = some x ∧ len ≤ cap ∧ cap ≤ maxLen ∧ zs.length = cap ∧ (∀ i, i < zs.length → w.cell? (x.add i) = some (.int .u8 (zs.getD i 0))) ∧ ∀ n ∈ zs, (Lit.int .u8 n).wf = true

/-- Its bytes. -/
def inBytes (len : Nat) (zs : List Int) : List UInt8 := (zs.take len).map fun n => n.toNat.toUInt8

theorem wf_byte {n : Int} (h : (Lit.int .u8 n).wf = true) : 0 ≤ n ∧ n ≤ 255 := by
  simp [Lit.wf, IntKind.min, IntKind.max, IntKind.signed, IntKind.bits] at h
  omega

theorem inBytes_len {w : World} {a : Option Addr} {len cap : Nat} {zs : List Int} (h : InRow w a len cap zs) : (inBytes len zs).length = len := by
  unfold inBytes
  rcases h with ⟨_, rfl, _, rfl⟩ | ⟨x, _, h1, _, h2, _, _⟩
  · rfl
  · simp; omega

theorem inBytes_bt {w : World} {a : Option Addr} {len cap : Nat} {zs : List Int} (h : InRow w a len cap zs) {j : Nat} (hj : j < len) : bt (inBytes len zs) j = zs.getD j 0 := by
  rcases h with ⟨_, rfl, _, rfl⟩ | ⟨x, _, h1, _, h2, _, h3⟩
  · omega
  · have hz : j < zs.length := by omega
    have hm := wf_byte (h3 zs[j] (List.getElem_mem hz))
    unfold bt inBytes
    simp [List.getD, hj, List.getElem?_eq_getElem hz]
    omega

theorem add_none (b o i : Nat) : (⟨b, o, none⟩ : Addr).add i = ⟨b, o + i, none⟩ := by
  unfold Addr.add
  split <;> simp_all

def ClonePost (l : List UInt8) (w : World) (e : Ending) (w' : World) : Prop := ∃ v', e = .returned v' ∧ BS w'.heap.size w' v' l ∧ Below w.heap.size w w'

theorem clone_nil (w : World) : Calls Try.prog 10 #[.slice none 0 0] w fun e w' => e = .returned (.slice none 0 0) ∧ w' = w := by
  have q22 : ∀ (w : World) (a : Option Addr) (n c n' c' : Nat), (binOp .eql 22 (.slice a n c) (.slice none n' c')).run Try.prog w = .ok (.bool a.isNone) w := fun w a n c n' c' => Lib.run_eql_slice_nil w _ _ a n c n' c' Try.underlying22
  go_enter Try.func10, Try.ntmps10
  go_wp2
  go_ret
  exact ⟨rfl, rfl⟩

set_option maxHeartbeats 1000000 in
theorem clone_some (x : Addr) (len cap : Nat) (z : Nat → Int) (w : World) (hl : len ≤ 1048576) (hc : ∀ i, i < len → w.cell? (x.add i) = some (.int .u8 (z i))) (hx : 0 < len → x.block < w.heap.size ∧ x.spot = none) :
    Calls Try.prog 10 #[.slice (some x) len cap] w fun e w' => e = .returned (.slice (some ⟨w.heap.size, 0, none⟩) len len) ∧ w'.rowIs w.heap.size 5 len (fun k => .int .u8 (z k)) ∧ Below w.heap.size w w' := by
  have q22 : ∀ (w : World) (a : Option Addr) (n c n' c' : Nat), (binOp .eql 22 (.slice a n c) (.slice none n' c')).run Try.prog w = .ok (.bool a.isNone) w := fun w a n c n' c' => Lib.run_eql_slice_nil w _ _ a n c n' c' Try.underlying22
  have hmk := fun W => run_make_row' (P := Try.prog) 22 5 (.int .u8 0) 1 Try.underlying22 Try.info5 rfl .i64 .i64 len (by omega) (by omega) W
  obtain ⟨xb, xo, xs⟩ := x
  have HX := hide hx
  have HC := hide hc
  clear hc hx
  go_enter Try.func10, Try.ntmps10
  go_wp2
  clear hmk q22
  go_loopw [4] (fun vi wr => ∃ i : Nat, vi = .int .i64 i ∧ i ≤ len ∧ Hid (wr.rowIs w.heap.size 5 len (fun k => .int .u8 (if k < i then z k else 0))) ∧ Hid (Below w.heap.size w wr)) (fun vi _ => len - (intOf vi).toNat)
  case atStart =>
    refine ⟨0, rfl, Nat.zero_le _, ?_, (Below.refl _ _).alloc (Nat.le_refl _) _⟩
    exact (World.rowIs_made w (.int .u8 0) len 5).congr (fun i _ => by simp)
  case round =>
    obtain ⟨i, rfl, hi, HR, HB⟩ := hrel
    by_cases hlt : i < len
    · obtain ⟨h1, h2⟩ := HX.out (by omega)
      subst h2
      have c1 : wr.cell? ⟨xb, xo + i, none⟩ = some (.int .u8 (z i)) := (HB.out.cell (p := ⟨xb, xo + i, none⟩) h1).trans (by rw [← add_none]; exact HC.out i hlt)
      have c2 := HR.out.cell (i := i) hlt
      have f2 := HR.out.frozen i
      have HR2 : Hid ((wr.setCell ⟨w.heap.size, i, none⟩ (.int .u8 (z i))).rowIs w.heap.size 5 len (fun k => .int .u8 (if k < i + 1 then z k else 0))) :=
        (HR.out.set i _).congr (fun k _ => by
          show (if k = i then Value.int .u8 (z i) else Value.int .u8 (if k < i then z k else 0)) = _
          by_cases e : k = i
          · subst e; simp
          · rw [if_neg e]
            by_cases e2 : k < i
            · rw [if_pos e2, if_pos (by omega)]
            · rw [if_neg e2, if_neg (by omega)])
      have HB2 : Hid (Below w.heap.size w (wr.setCell ⟨w.heap.size, i, none⟩ (.int .u8 (z i)))) := HB.out.setCell (p := ⟨w.heap.size, i, none⟩) (Nat.le_refl _) _
      clear HR HB h1
      go_wp2
      go_roundw
      case rel => exact ⟨i + 1, by go_num, by omega, HR2, HB2⟩
      case measure => simp [intOf]; omega
    · have hie : i = len := by omega
      have HR2 : Hid (wr.rowIs w.heap.size 5 len (fun k => .int .u8 (z k))) := HR.out.congr (fun k hk => by rw [if_pos (by omega)])
      clear hie HR
      go_wp2
      go_ret
      exact ⟨rfl, HR2.out, HB.out⟩

theorem clone_any (a : Option Addr) (len cap : Nat) (zs : List Int) (w : World) (hr : InRow w a len cap zs) (hl : len ≤ 1048576) :
    Calls Try.prog 10 #[.slice a len cap] w fun e w' => ClonePost (inBytes len zs) w e w' := by
  have hlen := inBytes_len hr
  have hbt := fun j (hj : j < len) => inBytes_bt hr hj
  rcases hr with ⟨rfl, rfl, rfl, rfl⟩ | ⟨x, rfl, h1, h2, h3, h4, h5⟩
  · refine (clone_nil w).mono ?_
    rintro e w' ⟨rfl, rfl⟩
    exact ⟨_, rfl, Or.inl ⟨rfl, rfl⟩, Below.refl _ _⟩
  · refine (clone_some x len cap (fun k => zs.getD k 0) w hl (fun i hi => h4 i (by omega)) (fun h0 => ?_)).mono ?_
    · have hc := h4 0 (by omega)
      have hs : x.spot = none := by simpa [Addr.add] using World.cell?_spot hc
      refine ⟨?_, hs⟩
      rcases Nat.lt_or_ge x.block w.heap.size with h | h
      · exact h
      · simp [World.cell?, Addr.add, Array.getElem?_eq_none h] at hc
    · rintro e w' ⟨rfl, hrow, hb⟩
      refine ⟨_, rfl, Or.inr ⟨w.heap.size, len, by rw [hlen], by omega, hrow.lt, fun j hj => ?_⟩, hb⟩
      rw [hlen] at hj
      rw [hrow.cell hj, hbt j hj]

/-- The bound that is laid by program. -/
theorem sizes21 (a : Option Addr) (len cap : Nat) (w : World) (hl : len ≤ maxLen) :
    Calls Try.prog 21 #[.slice a len cap] w fun e w' => e = .returned (.bool (decide (len ≤ 1048576))) ∧ w' = w := by
  unfold maxLen at hl
  by_cases h1 : len ≤ 1048576
  · have h4 : decide (len ≤ 1048576) = true := by simpa using h1
    go_enter Try.func21, Try.ntmps21
    go_wp2
    go_ret
    exact ⟨by rw [h4]; rfl, rfl⟩
  · have h4 : decide (len ≤ 1048576) = false := by simpa using h1
    go_enter Try.func21, Try.ntmps21
    go_wp2
    go_ret
    exact ⟨by rw [h4]; rfl, rfl⟩

theorem sizes17 (a : Option Addr) (len cap : Nat) (w : World) (hl : len ≤ maxLen) :
    Calls Try.prog 17 #[.slice a len cap] w fun e w' => e = .returned (.bool (decide (len ≤ 1048576))) ∧ w' = w := by
  unfold maxLen at hl
  by_cases h1 : len ≤ 1048576
  · have h4 : decide (len ≤ 1048576) = true := by simpa using h1
    go_enter Try.func17, Try.ntmps17
    go_wp2
    go_ret
    exact ⟨by rw [h4]; rfl, rfl⟩
  · have h4 : decide (len ≤ 1048576) = false := by simpa using h1
    go_enter Try.func17, Try.ntmps17
    go_wp2
    go_ret
    exact ⟨by rw [h4]; rfl, rfl⟩
end Go.Proofs.Qxb6601896a
