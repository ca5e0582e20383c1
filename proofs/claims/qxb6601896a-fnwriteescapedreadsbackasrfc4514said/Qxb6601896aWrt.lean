/- WriteByte, WriteString at no byte, AppendRune, WriteRune, as this program's text has them. -/
import Derived.Test.Qxb6601896aBld
namespace Go.Proofs.Qxb6601896a
open Go.RowKit
set_option linter.unusedVariables false

/-- What is known of the builder's two cells where the buffer lies elsewhere. -/
theorem cells_of {b : Nat} {p v : Value} {w : World} (h : w.heap[b]? = some (.cells #[p, v] 41 (0, 0))) :
    b < w.heap.size ∧ w.cell? ⟨b, 0, none⟩ = some p ∧ w.cell? ⟨b, 1, none⟩ = some v ∧ w.frozen? ⟨b, 1, none⟩ = false :=
  ⟨(Array.getElem?_eq_some_iff.1 h).1, by rw [Lib.cell_of_heap h]; rfl, by rw [Lib.cell_of_heap h]; rfl, Lib.frozen_of_heap h 1⟩

/-- The builder's block behind a new block and the buffer's growth. -/
theorem block_on {b : Nat} {p v : Value} {w w2 : World} {o : Obj} (h : w.heap[b]? = some (.cells #[p, v] 41 (0, 0))) (hne : v.ownBlock ≠ some b) (hg : (w.alloc o).grownBy w2 v.ownBlock) :
    w2.heap[b]? = some (.cells #[p, v] 41 (0, 0)) := by
  have hlt := (cells_of h).1
  rw [hg.block b (by simp; omega) (fun e => hne e.symm), Lib.alloc_old w _ b hlt]
  exact h

set_option maxHeartbeats 2000000 in
set_option maxRecDepth 100000 in
theorem byte_wr (B b : Nat) (bs : List Value) (c : Int) (w : World) (h : Bld B b bs w) (hlen : bs.length + 1 ≤ 140737488355328) (hBw : B ≤ w.heap.size) :
    Calls Try.prog 36 #[.pointer (some ⟨b, 0, none⟩), .int .u8 c] w fun e w' => e = .returned .nilIface ∧ BldU B b (bs ++ [.int .u8 c]) w' ∧ Kept B b w w' := by
  obtain ⟨i0, hi, hz0, hz1, hz2⟩ := info_parts Try.info5
  go_enter Try.func36, Try.ntmps36
  go_wp2_with (go_at_call 34; refine (copy_any B b bs _ h).mono ?_)
  rintro e w1 ⟨rfl, h1, hb1, hk1⟩
  obtain ⟨hB, v, hbk, hown, hne⟩ := h1
  obtain ⟨hlt, c0, c1, _⟩ := cells_of hbk
  go_wp2_with (at_builtin; refine wpList_append_ownF _ rfl _ _ 22 rfl B 5 i0 (.int .u8 0) 1 1 Try.underlying22 hi hz0 hz1 hz2 rfl (by decide) _ _ _ rfl (hown.alloc _) ⟨w1.heap.size, 0, none⟩ 1 1 [.int .u8 c] rfl rfl ?c1 ?c2 ?c3 ?c4 ?c5 ?_)
  case c1 =>
    intro j u hj
    match j, hj with
    | 0, hj => simp at hj; subst hj; simp [Addr.add]
  case c2 => intro u hu; simp at hu; subst hu; rfl
  case c3 => unfold maxLen; omega
  case c4 => omega
  case c5 => have := hb1.size; simp; omega
  intro v' w2 hown' hgrow _
  have hb2 := block_on hbk hne hgrow
  obtain ⟨_, d0, d1, f1⟩ := cells_of hb2
  obtain ⟨g, cap, rfl⟩ : ∃ g cap, v' = .slice (some ⟨g, 0, none⟩) (bs.length + 1) cap := by
    rcases hown'.2 with ⟨_, h0⟩ | ⟨g, cap, cur, fz, hv, _⟩
    · omega
    · exact ⟨g, cap, hv⟩
  go_wp2
  go_ret
  refine ⟨rfl, ?_, ?_, ((hk1.alloc _).grown hgrow (Lib.ownsRowF_kind (hown.alloc _))).setCell ⟨b, 1, none⟩ rfl _⟩
  · exact Lib.BuilderAtF.put (T := 41) (e := 5) hB hb2 (bs' := bs ++ [.int .u8 c]) (by simpa using hown') (by decide)
  · exact ((hb1.alloc (by have := hb1.size; omega) _).grown hgrow (by have := hb1.size; simp; omega) (fun k hk => (hown.lt k hk).1)).setCell (p := ⟨b, 1, none⟩) hB _

set_option maxHeartbeats 2000000 in
set_option maxRecDepth 100000 in
theorem str_wr (B b : Nat) (bs : List Value) (w : World) (h : Bld B b bs w) (hlen : bs.length ≤ 140737488355328) (hBw : B ≤ w.heap.size) :
    Calls Try.prog 26 #[.pointer (some ⟨b, 0, none⟩), .string ⟨#[]⟩] w fun e w' => e = .returned (.tuple #[.int .i64 0, .nilIface]) ∧ BldU B b bs w' ∧ Kept B b w w' := by
  obtain ⟨i0, hi, hz0, hz1, hz2⟩ := info_parts Try.info5
  go_enter Try.func26, Try.ntmps26
  go_wp2_with (go_at_call 34; refine (copy_any B b bs _ h).mono ?_)
  rintro e w1 ⟨rfl, h1, hb1, hk1⟩
  obtain ⟨hB, v, hbk, hown, hne⟩ := h1
  obtain ⟨hlt, c0, c1, _⟩ := cells_of hbk
  go_wp2_with (at_builtin; refine Lib.wpList_append_own_stringF _ rfl _ _ 22 9 rfl B 5 i0 Try.underlying22 Try.underlying9 hi hz0 hz1 hz2 _ _ _ rfl hown ⟨#[]⟩ rfl ?c3 ?c4 ?c5 ?_)
  case c3 => unfold maxLen; show _ + 0 ≤ _; omega
  case c4 => show _ + 0 ≤ _; omega
  case c5 => have := hb1.size; omega
  intro v' w2 hown' hgrow _
  have hb2 : w2.heap[b]? = some (.cells #[.pointer (some ⟨b, 0, none⟩), v] 41 (0, 0)) := by
    rw [hgrow.block b hlt (fun e => hne e.symm)]
    exact hbk
  obtain ⟨_, d0, d1, f1⟩ := cells_of hb2
  obtain ⟨ao, n', cap, rfl⟩ : ∃ ao n' cap, v' = .slice ao n' cap := by
    rcases hown'.2 with ⟨hv, _⟩ | ⟨g, cap, cur, fz, hv, _⟩
    · exact ⟨_, _, _, hv⟩
    · exact ⟨_, _, _, hv⟩
  go_wp2
  go_ret2
  refine ⟨rfl, ?_, ?_, (hk1.grown hgrow (Lib.ownsRowF_kind hown)).setCell ⟨b, 1, none⟩ rfl _⟩
  · exact Lib.BuilderAtF.put (T := 41) (e := 5) hB hb2 (bs' := bs) (by simpa [Lib.strCells] using hown') (by decide)
  · exact (hb1.grown hgrow (by have := hb1.size; omega) (fun k hk => (hown.lt k hk).1)).setCell (p := ⟨b, 1, none⟩) hB _

end Go.Proofs.Qxb6601896a
