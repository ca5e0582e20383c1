/- ZZwriteEscaped into an empty builder. -/
import Derived.Test.Qxb6601896aWalk27
namespace Go.Proofs.Qxb6601896a
open Go.RowKit
set_option linter.unusedVariables false

theorem bs_shape {B : Nat} {w : World} {v : Value} {l : List UInt8} (h : BS B w v l) : ∃ ao cap, v = .slice ao l.length cap := by
  rcases h with ⟨h1, h2⟩ | ⟨b, cap, h1, _⟩
  · exact ⟨none, 0, by rw [h1, h2]; rfl⟩
  · exact ⟨_, _, h1⟩

theorem bs_conv {B : Nat} {w : World} {v : Value} {l : List UInt8} (h : BS B w v l) : (convert 22 9 v).run Try.prog w = .ok (.string ⟨l.toArray⟩) w := by
  rcases h with ⟨rfl, rfl⟩ | ⟨b, cap, rfl, h2, h3, h4⟩
  · exact run_convert_bytes_nil w 22 5 Try.underlying22 Try.underlying5 0 0 9 Try.underlying9
  · refine run_convert_bytes_back w 22 9 5 ⟨b, 0, none⟩ cap l Try.underlying22 Try.underlying5 Try.underlying9 (fun j hj => ?_)
    rw [add_none, Nat.zero_add, h4 j hj]
    unfold bt
    simp [List.getD, List.getElem?_eq_getElem hj]

set_option maxHeartbeats 1000000 in
set_option maxRecDepth 100000 in
theorem zz18 (v : Value) (l : List UInt8) (w : World) (hl : l.length ≤ 1048576) (hv : BS w.heap.size w v l) :
    Calls Try.prog 18 #[.string ⟨#[]⟩, v] w fun e w' => e = .returned (.string ⟨(esc l).toArray⟩) ∧ Below w.heap.size w w' := by
  have hfr : Bld w.heap.size w.heap.size [] (w.alloc (.cells #[.pointer none, .slice none 0 0] 41)) := Lib.IsBuilderF.of (Lib.fresh_isBuilder 41 5 w)
  have hb0 : Below w.heap.size w (w.alloc (.cells #[.pointer none, .slice none 0 0] 41)) := (Below.refl _ w).alloc (Nat.le_refl _) _
  have hz0 : w.heap.size ≤ (w.alloc (.cells #[.pointer none, .slice none 0 0] 41)).heap.size := by simp
  obtain ⟨ao, cap, rfl⟩ := bs_shape hv
  go_enter Try.func18, Try.ntmps18
  go_wp2_with (go_at_call 26; refine (str_wr w.heap.size w.heap.size [] _ hfr (by simp) hz0).mono ?_; rintro e W1 ⟨rfl, h1, h2⟩)
  have hb1 : Below w.heap.size w W1 := hb0.trans h2.1
  have hlt : w.heap.size < W1.heap.size := h1.lt
  have hcv := bs_conv (hv.on hb1 (Nat.le_refl _))
  refine (walk27 w.heap.size w.heap.size ao cap l W1 hl h1.bld (by omega) hlt hcv).mono ?_
  rintro e W2 ⟨rfl, h3, h4⟩
  clear hcv h1 h2 hfr hb0 hz0
  go_wp2_with (go_at_call 28; refine (Try.Builder_String_any_k w.heap.size w.heap.size (esc l) _ h3 (by have := h4.size; omega)).mono ?_; rintro e W3 ⟨rfl, _, h5, _⟩)
  go_ret
  exact ⟨rfl, (hb1.trans h4).trans h5⟩
end Go.Proofs.Qxb6601896a
