/- The law: the bound, the copy, the two calls, the comparison. -/
import Derived.Test.Qxb6602146aModel
import Derived.Deep.OwnRows
import Derived.Laws.CopyOwn
import Derived.ProofKit
namespace Go.Proofs.Qxb6602146a
open Go.RowKit
set_option linter.unusedVariables false

/-- What is known of a slice of bytes that came in. -/
def InRow (w : World) (a : Option Addr) (len cap : Nat) (zs : List Int) : Prop :=
  (a = none ∧ len = 0 ∧ cap = 0 ∧ zs = []) ∨
  ∃ x, a = some x ∧ len ≤ cap ∧ cap ≤ maxLen ∧ zs.length = cap ∧ (∀ i, i < zs.length → w.cell? (x.add i) = some (.int .u8 (zs.getD i 0))) ∧ ∀ n ∈ zs, (Lit.int .u8 n).wf = true

theorem wf_byte {n : Int} (h : (Lit.int .u8 n).wf = true) : 0 ≤ n ∧ n ≤ 255 := by
  simp [Lit.wf, IntKind.min, IntKind.max, IntKind.signed, IntKind.bits] at h
  omega

theorem size5 : (Try.prog.info? 5).map (·.size) = some 1 := by kernel_rfl

theorem copy_fact (x : Addr) (n cap : Nat) (z : Nat → Int) (w : World) (hc : ∀ i, i < n → w.cell? (x.add i) = some (.int .u8 (z i))) (hx : 0 < n → x.block < w.heap.size) :
    ∃ w2, (∀ ty, (Builtin.copy_ #[22, 22] ty #[.slice (some ⟨w.heap.size, 0, none⟩) n n, .slice (some x) n cap]).run Try.prog (w.alloc (.cells (madeCells #[.int .u8 0] n) 5)) = .ok (goInt n) w2) ∧
      (∀ j, j < n → w2.cell? ⟨w.heap.size, j, none⟩ = some (.int .u8 (z j))) ∧ Below w.heap.size w w2 := by
  have hb : Below w.heap.size w (w.alloc (.cells (madeCells #[.int .u8 0] n) 5)) := (Below.refl _ _).alloc (Nat.le_refl _) _
  have hg : (w.alloc (.cells (madeCells #[.int .u8 0] n) 5)).heap[w.heap.size]? = some (.cells (madeCells #[.int .u8 0] n) 5 (0, 0)) := heap_alloc_new w _
  have hl : ((List.range n).map fun k => Value.int .u8 (z k)).length = n := by simp
  have hs : (madeCells #[Value.int .u8 0] n).size = n := size_madeCells _ _
  refine ⟨(w.alloc (.cells (madeCells #[.int .u8 0] n) 5)).setRow w.heap.size ((madeCells #[Value.int .u8 0] n).toList.take 0 ++ (List.range n).map (fun k => Value.int .u8 (z k)) ++ (madeCells #[Value.int .u8 0] n).toList.drop (0 + ((List.range n).map fun k => Value.int .u8 (z k)).length)).toArray, fun ty => ?_, fun j hj => ?_, below_setRow hb (Nat.le_refl _) _⟩
  · have h := run_copy_row (P := Try.prog) (w.alloc (.cells (madeCells #[.int .u8 0] n) 5)) 22 22 ty 5 w.heap.size 0 n n x n cap (madeCells #[.int .u8 0] n) 5 ((List.range n).map fun k => Value.int .u8 (z k))
      Try.underlying22 size5 hg (by rw [hl]; exact (Nat.min_self n).symm) (fun j v hv => by
        have hj : j < n := by
          have := (List.getElem?_eq_some_iff.1 hv).1
          omega
        have hv2 : v = .int .u8 (z j) := by simpa [hj] using hv.symm
        rw [hv2]
        exact (hb.cell (p := x.add j) (by
          have : (x.add j).block = x.block := by unfold Addr.add; split <;> rfl
          rw [this]; exact hx (by omega))).trans (hc j hj)) (by rw [hl, hs]; omega) (fun v hv => by
        simp at hv
        obtain ⟨k, _, rfl⟩ := hv
        rfl)
    rw [h, hl]
  · have hrow := setRow_heap (w.alloc (.cells (madeCells #[.int .u8 0] n) 5)) w.heap.size _ ((madeCells #[Value.int .u8 0] n).toList.take 0 ++ (List.range n).map (fun k => Value.int .u8 (z k)) ++ (madeCells #[Value.int .u8 0] n).toList.drop (0 + ((List.range n).map fun k => Value.int .u8 (z k)).length)).toArray 5 _ hg
    have hri : World.rowIs ((w.alloc (.cells (madeCells #[.int .u8 0] n) 5)).setRow w.heap.size ((madeCells #[Value.int .u8 0] n).toList.take 0 ++ (List.range n).map (fun k => Value.int .u8 (z k)) ++ (madeCells #[Value.int .u8 0] n).toList.drop (0 + ((List.range n).map fun k => Value.int .u8 (z k)).length)).toArray) w.heap.size 5 n (fun k => .int .u8 (z k)) := by
      refine ⟨_, hrow, by simp [hs], fun i hi => ?_⟩
      simp
      rw [List.getElem?_append_left (by simpa using hi)]
      simp [hi]
    exact hri.cell hj

theorem sizes7 (a : Option Addr) (len cap : Nat) (w : World) (hl : len ≤ maxLen) :
    Calls Try.prog 7 #[.slice a len cap] w fun e w' => e = .returned (.bool (decide (len ≤ 1048576))) ∧ w' = w := by
  unfold maxLen at hl
  by_cases h1 : len ≤ 1048576
  · have h4 : decide (len ≤ 1048576) = true := by simpa using h1
    go_enter Try.func7, Try.ntmps7
    go_wp2
    go_ret
    exact ⟨by rw [h4]; rfl, rfl⟩
  · have h4 : decide (len ≤ 1048576) = false := by simpa using h1
    go_enter Try.func7, Try.ntmps7
    go_wp2
    go_ret
    exact ⟨by rw [h4]; rfl, rfl⟩

set_option maxHeartbeats 1000000 in
theorem law_none (w : World) : Calls Try.prog 3 #[.slice none 0 0] w fun e w' => e = .returned (.bool true) ∧ Below w.heap.size w w' := by
  have q22 : ∀ (w : World) (a : Option Addr) (n c n' c' : Nat), (binOp .neq 22 (.slice a n c) (.slice none n' c')).run Try.prog w = .ok (.bool (!a.isNone)) w := fun w a n c n' c' => run_neq_slice_nil_any w _ _ a n c n' c' Try.underlying22
  have H7 := hide (sizes7 none 0 0 w (by unfold maxLen; omega))
  have H8 := hide (zhead_any none 0 (fun _ => 0) w (by omega) (fun _ => ⟨by omega, by omega⟩) (Or.inl ⟨rfl, rfl⟩))
  have H9 := hide (model_any none 0 (fun _ => 0) w (by omega) (Or.inl ⟨rfl, rfl⟩))
  go_enter Try.func3, Try.ntmps3
  go_wp2_with (go_at_call 7; refine H7.out.mono ?_; rintro e w' ⟨rfl, hw⟩; have hw2 := hw.symm; subst hw2; clear hw)
  go_wp2_with (go_at_call 8; refine H8.out.mono ?_; rintro e w' ⟨r1, b1, rfl, ha1, hw⟩; have hw2 := hw.symm; subst hw2; clear hw; replace ha1 := hide ha1)
  go_wp2_with (go_at_call 9; refine H9.out.mono ?_; rintro e w' ⟨r2, b2, rfl, ha2, hw⟩; have hw2 := hw.symm; subst hw2; clear hw; obtain ⟨rfl, rfl⟩ := Ans.one ha1.out ha2; clear ha2)
  go_ret
  exact ⟨rfl, Below.refl _ _⟩

set_option maxHeartbeats 1000000 in
theorem law_long (a : Option Addr) (n cap : Nat) (w : World) (hm : n ≤ maxLen) (h : ¬ n ≤ 1048576) : Calls Try.prog 3 #[.slice a n cap] w fun e w' => e = .returned (.bool true) ∧ Below w.heap.size w w' := by
  have H7 := hide (sizes7 a n cap w hm)
  have h4 : decide (n ≤ 1048576) = false := by simpa using h
  rw [h4] at H7
  clear hm h4
  go_enter Try.func3, Try.ntmps3
  go_wp2_with (go_at_call 7; refine H7.out.mono ?_; rintro e w' ⟨rfl, hw⟩; have hw2 := hw.symm; subst hw2; clear hw)
  go_ret
  exact ⟨rfl, Below.refl _ _⟩

set_option maxHeartbeats 1000000 in
theorem law_some (x : Addr) (n cap : Nat) (z : Nat → Int) (w : World) (hm : n ≤ 1048576) (hz : ∀ j, 0 ≤ z j ∧ z j ≤ 255) (hc : ∀ i, i < n → w.cell? (x.add i) = some (.int .u8 (z i))) (hx : 0 < n → x.block < w.heap.size) :
    Calls Try.prog 3 #[.slice (some x) n cap] w fun e w' => e = .returned (.bool true) ∧ Below w.heap.size w w' := by
  have q22 : ∀ (w : World) (a : Option Addr) (n c n' c' : Nat), (binOp .neq 22 (.slice a n c) (.slice none n' c')).run Try.prog w = .ok (.bool (!a.isNone)) w := fun w a n c n' c' => run_neq_slice_nil_any w _ _ a n c n' c' Try.underlying22
  have H7 := hide (sizes7 (some x) n cap w (by unfold maxLen; omega))
  have h4 : decide (n ≤ 1048576) = true := by simpa using hm
  rw [h4] at H7
  have hmk := fun W => run_make_row' (P := Try.prog) 22 5 (.int .u8 0) 1 Try.underlying22 Try.info5 rfl .i64 .i64 n (by omega) (by omega) W
  obtain ⟨w2, hcp, hrow, hb⟩ := copy_fact x n cap z w hc hx
  have H8 := hide (zhead_any (some ⟨w.heap.size, 0, none⟩) n z w2 hm hz (Or.inr ⟨_, rfl, hrow⟩))
  have H9 := hide (model_any (some ⟨w.heap.size, 0, none⟩) n z w2 hm (Or.inr ⟨_, rfl, hrow⟩))
  have HB := hide hb
  clear hz hc hx hrow hb h4
  go_enter Try.func3, Try.ntmps3
  go_wp2_with (go_at_call 7; refine H7.out.mono ?_; rintro e w' ⟨rfl, hw⟩; have hw2 := hw.symm; subst hw2; clear hw)
  go_wp2_with (go_at_call 8; refine H8.out.mono ?_; rintro e w' ⟨r1, b1, rfl, ha1, hw⟩; have hw2 := hw.symm; subst hw2; clear hw; replace ha1 := hide ha1)
  go_wp2_with (go_at_call 9; refine H9.out.mono ?_; rintro e w' ⟨r2, b2, rfl, ha2, hw⟩; have hw2 := hw.symm; subst hw2; clear hw; obtain ⟨rfl, rfl⟩ := Ans.one ha1.out ha2; clear ha2)
  go_ret
  exact ⟨rfl, HB.out⟩

theorem law_any (a : Option Addr) (len cap : Nat) (zs : List Int) (w : World) (hr : InRow w a len cap zs) :
    Calls Try.prog 3 #[.slice a len cap] w fun e w' => e = .returned (.bool true) ∧ Below w.heap.size w w' := by
  rcases hr with ⟨rfl, rfl, rfl, rfl⟩ | ⟨x, rfl, h1, h2, h3, h4, h5⟩
  · exact law_none w
  · by_cases hm : len ≤ 1048576
    · refine law_some x len cap (fun k => zs.getD k 0) w hm (fun j => ?_) (fun i hi => h4 i (by omega)) (fun h0 => ?_)
      · by_cases e : j < zs.length
        · have := wf_byte (h5 zs[j] (List.getElem_mem e))
          simpa [List.getD, List.getElem?_eq_getElem e] using this
        · simp [List.getD, List.getElem?_eq_none (Nat.le_of_not_lt e)]
      · have hc := h4 0 (by omega)
        rcases Nat.lt_or_ge x.block w.heap.size with h | h
        · exact h
        · have hs : x.spot = none := by simpa [Addr.add] using World.cell?_spot hc
          simp [World.cell?, Addr.add, Array.getElem?_eq_none h] at hc
    · exact law_long (some x) len cap w (by omega) hm
end Go.Proofs.Qxb6602146a
