/- zzCloneBytes; the bounds ahead; the call of indexLastNewline. -/
import Derived.Test.Qxb6602170aLast
import Derived.Deep.OwnRows
import Derived.ProofKit
namespace Go.Proofs.Qxb6602170a
open Go.RowKit
set_option linter.unusedVariables false

/-- What is known of a slice of bytes that came in. -/
def InRow (w : World) (a : Option Addr) (len cap : Nat) (zs : List Int) : Prop :=
  (a = none ∧ len = 0 ∧ cap = 0 ∧ zs = []) ∨
  ∃ x, a = some x ∧ len ≤ cap ∧ cap ≤ maxLen ∧ zs.length = cap ∧ (∀ i, i < zs.length → w.cell? (x.add i) = some (.int .u8 (zs.getD i 0))) ∧ ∀ n ∈ zs, (Lit.int .u8 n).wf = true

theorem InRow.le {w : World} {a : Option Addr} {len cap : Nat} {zs : List Int} (h : InRow w a len cap zs) : len ≤ maxLen := by
  rcases h with ⟨_, rfl, _, _⟩ | ⟨x, _, h1, h2, _⟩
  · exact Nat.zero_le _
  · omega

theorem InRow.on {w w' : World} {a : Option Addr} {len cap : Nat} {zs : List Int} (h : InRow w a len cap zs) (hb : Below w.heap.size w w') : InRow w' a len cap zs := by
  rcases h with h | ⟨x, h1, h2, h3, h4, h5, h6⟩
  · exact Or.inl h
  · refine Or.inr ⟨x, h1, h2, h3, h4, fun i hi => ?_, h6⟩
    refine (hb.cell (p := x.add i) ?_).trans (h5 i hi)
    have hc := h5 i hi
    rcases Nat.lt_or_ge (x.add i).block w.heap.size with h | h
    · exact h
    · simp [World.cell?, Array.getElem?_eq_none h] at hc

theorem wf_byte {n : Int} (h : (Lit.int .u8 n).wf = true) : 0 ≤ n ∧ n ≤ 255 := by
  simp [Lit.wf, IntKind.min, IntKind.max, IntKind.signed, IntKind.bits] at h
  omega

/-- The bytes, beyond the end 0. -/
def inZ (zs : List Int) (k : Nat) : Int := zs.getD k 0

theorem InRow.byte {w : World} {a : Option Addr} {len cap : Nat} {zs : List Int} (h : InRow w a len cap zs) (j : Nat) : 0 ≤ inZ zs j ∧ inZ zs j ≤ 255 := by
  unfold inZ
  rcases h with ⟨_, _, _, rfl⟩ | ⟨x, _, _, _, _, _, h5⟩
  · simp
  · by_cases e : j < zs.length
    · have := wf_byte (h5 zs[j] (List.getElem_mem e))
      simpa [List.getD, List.getElem?_eq_getElem e] using this
    · simp [List.getD, List.getElem?_eq_none (Nat.le_of_not_lt e)]

theorem Row.on {B B' : Nat} {w w' : World} {a : Option Addr} {n : Nat} {z : Nat → Int} (h : Row B w a n z) (hb : Below B' w w') (hB : B ≤ B') : Row B w' a n z := by
  rcases h with h | ⟨b, h1, h3, h4⟩
  · exact Or.inl h
  · exact Or.inr ⟨b, h1, h3, fun j hj => (hb.cell (p := ⟨b, j, none⟩) (by show b < B'; omega)).trans (h4 j hj)⟩

theorem Row.at {B : Nat} {w : World} {a : Option Addr} {n : Nat} {z : Nat → Int} (h : Row B w a n z) (h0 : 0 < n) : ∃ b, a = some ⟨b, 0, none⟩ ∧ b < B ∧ ∀ j, j < n → w.cell? ⟨b, j, none⟩ = some (.int .u8 (z j)) := by
  rcases h with ⟨_, rfl⟩ | h
  · omega
  · exact h

def ClonePost (n : Nat) (z : Nat → Int) (w : World) (e : Ending) (w' : World) : Prop := ∃ a, e = .returned (.slice a n n) ∧ Row w'.heap.size w' a n z ∧ Below w.heap.size w w'

theorem clone_nil (w : World) : Calls Try.prog 9 #[.slice none 0 0] w fun e w' => e = .returned (.slice none 0 0) ∧ w' = w := by
  have q22 : ∀ (w : World) (a : Option Addr) (n c n' c' : Nat), (binOp .eql 22 (.slice a n c) (.slice none n' c')).run Try.prog w = .ok (.bool a.isNone) w := fun w a n c n' c' => Lib.run_eql_slice_nil w _ _ a n c n' c' Try.underlying22
  go_enter Try.func9, Try.ntmps9
  go_wp2
  go_ret
  exact ⟨rfl, rfl⟩

set_option maxHeartbeats 1000000 in
theorem clone_some (x : Addr) (len cap : Nat) (z : Nat → Int) (w : World) (hl : len ≤ 1048576) (hc : ∀ i, i < len → w.cell? (x.add i) = some (.int .u8 (z i))) (hx : 0 < len → x.block < w.heap.size ∧ x.spot = none) :
    Calls Try.prog 9 #[.slice (some x) len cap] w fun e w' => e = .returned (.slice (some ⟨w.heap.size, 0, none⟩) len len) ∧ w'.rowIs w.heap.size 5 len (fun k => .int .u8 (z k)) ∧ Below w.heap.size w w' := by
  have q22 : ∀ (w : World) (a : Option Addr) (n c n' c' : Nat), (binOp .eql 22 (.slice a n c) (.slice none n' c')).run Try.prog w = .ok (.bool a.isNone) w := fun w a n c n' c' => Lib.run_eql_slice_nil w _ _ a n c n' c' Try.underlying22
  have hmk := fun W => run_make_row' (P := Try.prog) 22 5 (.int .u8 0) 1 Try.underlying22 Try.info5 rfl .i64 .i64 len (by omega) (by omega) W
  obtain ⟨xb, xo, xs⟩ := x
  have HX := hide hx
  have HC := hide hc
  clear hc hx
  go_enter Try.func9, Try.ntmps9
  go_wp2
  clear hmk q22
  go_loopw [4] (fun vi wr => ∃ i : Nat, vi = .int .i64 i ∧ i ≤ len ∧ Hid (wr.rowIs w.heap.size 5 len (fun k => .int .u8 (if k < i then z k else 0))) ∧ Hid (Below w.heap.size w wr)) (fun vi _ => len - (intOf vi).toNat)
  case atStart =>
    refine ⟨0, rfl, Nat.zero_le _, ?_, (Below.refl _ _).alloc (Nat.le_refl _) _⟩
    exact (World.rowIs_made w (.int .u8 0) len 5).congr (fun i _ => by simp)
  case round =>
    obtain ⟨i, rfl, hi, HR, HB⟩ := hrel
    by_cases hlt : i < len
    · obtain ⟨h1, h2⟩ := HX.out (by omega)
      subst h2
      have c1 : wr.cell? ⟨xb, xo + i, none⟩ = some (.int .u8 (z i)) := (HB.out.cell (p := ⟨xb, xo + i, none⟩) h1).trans (by rw [← add_none]; exact HC.out i hlt)
      have c2 := HR.out.cell (i := i) hlt
      have f2 := HR.out.frozen i
      have HR2 : Hid ((wr.setCell ⟨w.heap.size, i, none⟩ (.int .u8 (z i))).rowIs w.heap.size 5 len (fun k => .int .u8 (if k < i + 1 then z k else 0))) :=
        (HR.out.set i _).congr (fun k _ => by
          show (if k = i then Value.int .u8 (z i) else Value.int .u8 (if k < i then z k else 0)) = _
          by_cases e : k = i
          · subst e; simp
          · rw [if_neg e]
            by_cases e2 : k < i
            · rw [if_pos e2, if_pos (by omega)]
            · rw [if_neg e2, if_neg (by omega)])
      have HB2 : Hid (Below w.heap.size w (wr.setCell ⟨w.heap.size, i, none⟩ (.int .u8 (z i)))) := HB.out.setCell (p := ⟨w.heap.size, i, none⟩) (Nat.le_refl _) _
      clear HR HB h1
      go_wp2
      go_roundw
      case rel => exact ⟨i + 1, by go_num, by omega, HR2, HB2⟩
      case measure => simp [intOf]; omega
    · have hie : i = len := by omega
      have HR2 : Hid (wr.rowIs w.heap.size 5 len (fun k => .int .u8 (z k))) := HR.out.congr (fun k hk => by rw [if_pos (by omega)])
      clear hie HR
      go_wp2
      go_ret
      exact ⟨rfl, HR2.out, HB.out⟩

theorem clone_any (a : Option Addr) (len cap : Nat) (zs : List Int) (w : World) (hr : InRow w a len cap zs) (hl : len ≤ 1048576) :
    Calls Try.prog 9 #[.slice a len cap] w fun e w' => ClonePost len (inZ zs) w e w' := by
  rcases hr with ⟨rfl, rfl, rfl, rfl⟩ | ⟨x, rfl, h1, h2, h3, h4, h5⟩
  · refine (clone_nil w).mono ?_
    rintro e w' ⟨rfl, rfl⟩
    exact ⟨_, rfl, Or.inl ⟨rfl, rfl⟩, Below.refl _ _⟩
  · refine (clone_some x len cap (inZ zs) w hl (fun i hi => h4 i (by omega)) (fun h0 => ?_)).mono ?_
    · have hc := h4 0 (by omega)
      have hs : x.spot = none := by simpa [Addr.add] using World.cell?_spot hc
      refine ⟨?_, hs⟩
      rcases Nat.lt_or_ge x.block w.heap.size with h | h
      · exact h
      · simp [World.cell?, Addr.add, Array.getElem?_eq_none h] at hc
    · rintro e w' ⟨rfl, hrow, hb⟩
      exact ⟨_, rfl, Or.inr ⟨w.heap.size, rfl, hrow.lt, fun j hj => hrow.cell hj⟩, hb⟩

set_option maxHeartbeats 1000000 in
theorem last_none (z : Nat → Int) (w : World) : Calls Try.prog 19 #[.slice none 0 0] w fun e w' => e = .returned (.int .i64 (lastNL z 0)) ∧ w' = w := by
  rw [show lastNL z 0 = -1 from rfl]
  go_enter Try.func19, Try.ntmps19
  go_wp2
  go_loop [3] (fun ve => ve = .int .i64 0) (fun _ => 0)
  case atStart => rfl
  case round =>
    subst hrel
    go_wp2
    go_ret
    exact ⟨rfl, rfl⟩

theorem last_any (B : Nat) (a : Option Addr) (n : Nat) (z : Nat → Int) (w : World) (hn : n ≤ 1048576) (hz : ∀ j, 0 ≤ z j ∧ z j ≤ 255) (hr : Row B w a n z) :
    Calls Try.prog 19 #[.slice a n n] w fun e w' => e = .returned (.int .i64 (lastNL z n)) ∧ w' = w := by
  rcases hr with ⟨rfl, rfl⟩ | ⟨b, rfl, _, hc⟩
  · exact last_none z w
  · exact last_some b n z w hn hz hc

theorem zlast_any (B : Nat) (a : Option Addr) (n : Nat) (z : Nat → Int) (w : World) (hn : n ≤ 1048576) (hz : ∀ j, 0 ≤ z j ∧ z j ≤ 255) (hr : Row B w a n z) :
    Calls Try.prog 10 #[.slice a n n] w fun e w' => e = .returned (.int .i64 (lastNL z n)) ∧ w' = w := by
  have H := hide (last_any B a n z w hn hz hr)
  clear hr hz
  go_enter Try.func10, Try.ntmps10
  go_wp2_with (go_at_call 19; refine H.out.mono ?_; rintro e w' ⟨rfl, hw⟩; have hw2 := hw.symm; subst hw2; clear hw)
  go_ret
  exact ⟨rfl, rfl⟩

theorem sizes11 (a1 a2 : Option Addr) (n1 n2 c1 c2 : Nat) (w : World) (hl1 : n1 ≤ maxLen) (hl2 : n2 ≤ maxLen) :
    Calls Try.prog 11 #[.slice a1 n1 c1, .slice a2 n2 c2] w fun e w' => e = .returned (.bool (decide (n1 + n2 ≤ 1048576))) ∧ w' = w := by
  unfold maxLen at hl1 hl2
  by_cases h1 : n1 + n2 ≤ 1048576
  · have h4 : decide (n1 + n2 ≤ 1048576) = true := by simpa using h1
    go_enter Try.func11, Try.ntmps11
    go_wp2
    go_ret
    exact ⟨by rw [h4]; rfl, rfl⟩
  · have h4 : decide (n1 + n2 ≤ 1048576) = false := by simpa using h1
    by_cases h2 : n1 ≤ 1048576
    · by_cases h3 : n2 ≤ 1048576
      · go_enter Try.func11, Try.ntmps11
        go_wp2
        go_ret
        exact ⟨by rw [h4]; rfl, rfl⟩
      · go_enter Try.func11, Try.ntmps11
        go_wp2
        go_ret
        exact ⟨by rw [h4]; rfl, rfl⟩
    · go_enter Try.func11, Try.ntmps11
      go_wp2
      go_ret
      exact ⟨by rw [h4]; rfl, rfl⟩

theorem sizes8 (a : Option Addr) (len cap : Nat) (w : World) (hl : len ≤ maxLen) :
    Calls Try.prog 8 #[.slice a len cap] w fun e w' => e = .returned (.bool (decide (len ≤ 1048576))) ∧ w' = w := by
  unfold maxLen at hl
  by_cases h1 : len ≤ 1048576
  · have h4 : decide (len ≤ 1048576) = true := by simpa using h1
    go_enter Try.func8, Try.ntmps8
    go_wp2
    go_ret
    exact ⟨by rw [h4]; rfl, rfl⟩
  · have h4 : decide (len ≤ 1048576) = false := by simpa using h1
    go_enter Try.func8, Try.ntmps8
    go_wp2
    go_ret
    exact ⟨by rw [h4]; rfl, rfl⟩
end Go.Proofs.Qxb6602170a
