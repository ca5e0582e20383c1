/- utf8.AppendRune onto the builder's buffer, and WriteRune, as this program's text has them: every rune that is one. -/
import Derived.Test.Qxb6601896aWrt
import Derived.Lib.RuneBytes
namespace Go.Proofs.Qxb6601896a
open Go.RowKit
set_option linter.unusedVariables false

/-- What an append onto the buffer leaves. -/
def AppPost (B : Nat) (v : Value) (n : Nat) (xs news : List Value) (w : World) (e : Ending) (w' : World) : Prop :=
  ∃ v', e = .returned v' ∧ w'.ownsRowF B 5 1 v' (n + news.length) (xs ++ news) ∧ ∃ o, (w.alloc o).grownBy w' v.ownBlock

set_option maxHeartbeats 4000000 in
set_option maxRecDepth 100000 in
theorem app2 (B : Nat) (v : Value) (n : Nat) (xs : List Value) (r : Int) (h0 : 128 ≤ r) (h1 : r ≤ 2047) (w : World) (hown : w.ownsRowF B 5 1 v n xs) (hlen : n + 4 ≤ 140737488355328) (hBw : B ≤ w.heap.size) :
    Calls Try.prog 46 #[v, .int .i32 r] w fun e w' => AppPost B v n xs [.int .u8 (192 + r / 64), .int .u8 (128 + r % 64)] w e w' := by
  obtain ⟨i0, hi, hz0, hz1, hz2⟩ := info_parts Try.info5
  go_enter Try.func46, Try.ntmps46
  go_wp2_with (at_builtin; refine wpList_append_ownF _ rfl _ _ 22 rfl B 5 i0 (.int .u8 0) 1 1 Try.underlying22 hi hz0 hz1 hz2 rfl (by decide) _ _ _ rfl (hown.alloc _) ⟨w.heap.size, 0, none⟩ 2 2 [.int .u8 (192 + r / 64), .int .u8 (128 + r % 64)] rfl rfl ?c1 ?c2 ?c3 ?c4 ?c5 ?_)
  case c1 =>
    intro j u hj
    match j, hj with
    | 0, hj => simp at hj; subst hj; simp [Addr.add]
    | 1, hj => simp at hj; subst hj; simp [Addr.add]
    | (j + 2), hj => simp at hj
  case c2 => intro u hu; simp at hu; rcases hu with rfl | rfl <;> rfl
  case c3 => unfold maxLen; omega
  case c4 => omega
  case c5 => simp; omega
  intro v' w2 hown' hgrow _
  go_wp2
  go_ret
  exact ⟨_, rfl, hown', _, hgrow⟩

set_option maxHeartbeats 4000000 in
set_option maxRecDepth 100000 in
theorem app3lo (B : Nat) (v : Value) (n : Nat) (xs : List Value) (r : Int) (h0 : 2048 ≤ r) (h1 : r < 55296) (w : World) (hown : w.ownsRowF B 5 1 v n xs) (hlen : n + 4 ≤ 140737488355328) (hBw : B ≤ w.heap.size) :
    Calls Try.prog 46 #[v, .int .i32 r] w fun e w' => AppPost B v n xs [.int .u8 (224 + r / 4096), .int .u8 (128 + r / 64 % 64), .int .u8 (128 + r % 64)] w e w' := by
  obtain ⟨i0, hi, hz0, hz1, hz2⟩ := info_parts Try.info5
  go_enter Try.func46, Try.ntmps46
  go_wp2_with (at_builtin; refine wpList_append_ownF _ rfl _ _ 22 rfl B 5 i0 (.int .u8 0) 1 1 Try.underlying22 hi hz0 hz1 hz2 rfl (by decide) _ _ _ rfl (hown.alloc _) ⟨w.heap.size, 0, none⟩ 3 3 [.int .u8 (224 + r / 4096), .int .u8 (128 + r / 64 % 64), .int .u8 (128 + r % 64)] rfl rfl ?c1 ?c2 ?c3 ?c4 ?c5 ?_)
  case c1 =>
    intro j u hj
    match j, hj with
    | 0, hj => simp at hj; subst hj; simp [Addr.add]
    | 1, hj => simp at hj; subst hj; simp [Addr.add]
    | 2, hj => simp at hj; subst hj; simp [Addr.add]
    | (j + 3), hj => simp at hj
  case c2 => intro u hu; simp at hu; rcases hu with rfl | rfl | rfl <;> rfl
  case c3 => unfold maxLen; omega
  case c4 => omega
  case c5 => simp; omega
  intro v' w2 hown' hgrow _
  go_wp2
  go_ret
  exact ⟨_, rfl, hown', _, hgrow⟩

set_option maxHeartbeats 4000000 in
set_option maxRecDepth 100000 in
theorem app3hi (B : Nat) (v : Value) (n : Nat) (xs : List Value) (r : Int) (h0 : 57343 < r) (h1 : r ≤ 65535) (w : World) (hown : w.ownsRowF B 5 1 v n xs) (hlen : n + 4 ≤ 140737488355328) (hBw : B ≤ w.heap.size) :
    Calls Try.prog 46 #[v, .int .i32 r] w fun e w' => AppPost B v n xs [.int .u8 (224 + r / 4096), .int .u8 (128 + r / 64 % 64), .int .u8 (128 + r % 64)] w e w' := by
  obtain ⟨i0, hi, hz0, hz1, hz2⟩ := info_parts Try.info5
  go_enter Try.func46, Try.ntmps46
  go_wp2_with (at_builtin; refine wpList_append_ownF _ rfl _ _ 22 rfl B 5 i0 (.int .u8 0) 1 1 Try.underlying22 hi hz0 hz1 hz2 rfl (by decide) _ _ _ rfl (hown.alloc _) ⟨w.heap.size, 0, none⟩ 3 3 [.int .u8 (224 + r / 4096), .int .u8 (128 + r / 64 % 64), .int .u8 (128 + r % 64)] rfl rfl ?c1 ?c2 ?c3 ?c4 ?c5 ?_)
  case c1 =>
    intro j u hj
    match j, hj with
    | 0, hj => simp at hj; subst hj; simp [Addr.add]
    | 1, hj => simp at hj; subst hj; simp [Addr.add]
    | 2, hj => simp at hj; subst hj; simp [Addr.add]
    | (j + 3), hj => simp at hj
  case c2 => intro u hu; simp at hu; rcases hu with rfl | rfl | rfl <;> rfl
  case c3 => unfold maxLen; omega
  case c4 => omega
  case c5 => simp; omega
  intro v' w2 hown' hgrow _
  go_wp2
  go_ret
  exact ⟨_, rfl, hown', _, hgrow⟩

set_option maxHeartbeats 4000000 in
set_option maxRecDepth 100000 in
theorem app4 (B : Nat) (v : Value) (n : Nat) (xs : List Value) (r : Int) (h0 : 65536 ≤ r) (h1 : r ≤ 1114111) (w : World) (hown : w.ownsRowF B 5 1 v n xs) (hlen : n + 4 ≤ 140737488355328) (hBw : B ≤ w.heap.size) :
    Calls Try.prog 46 #[v, .int .i32 r] w fun e w' => AppPost B v n xs [.int .u8 (240 + r / 262144), .int .u8 (128 + r / 4096 % 64), .int .u8 (128 + r / 64 % 64), .int .u8 (128 + r % 64)] w e w' := by
  obtain ⟨i0, hi, hz0, hz1, hz2⟩ := info_parts Try.info5
  go_enter Try.func46, Try.ntmps46
  go_wp2_with (at_builtin; refine wpList_append_ownF _ rfl _ _ 22 rfl B 5 i0 (.int .u8 0) 1 1 Try.underlying22 hi hz0 hz1 hz2 rfl (by decide) _ _ _ rfl (hown.alloc _) ⟨w.heap.size, 0, none⟩ 4 4 [.int .u8 (240 + r / 262144), .int .u8 (128 + r / 4096 % 64), .int .u8 (128 + r / 64 % 64), .int .u8 (128 + r % 64)] rfl rfl ?c1 ?c2 ?c3 ?c4 ?c5 ?_)
  case c1 =>
    intro j u hj
    match j, hj with
    | 0, hj => simp at hj; subst hj; simp [Addr.add]
    | 1, hj => simp at hj; subst hj; simp [Addr.add]
    | 2, hj => simp at hj; subst hj; simp [Addr.add]
    | 3, hj => simp at hj; subst hj; simp [Addr.add]
    | (j + 4), hj => simp at hj
  case c2 => intro u hu; simp at hu; rcases hu with rfl | rfl | rfl | rfl <;> rfl
  case c3 => unfold maxLen; omega
  case c4 => omega
  case c5 => simp; omega
  intro v' w2 hown' hgrow _
  go_wp2
  go_ret
  exact ⟨_, rfl, hown', _, hgrow⟩

/-- A rune that is one. -/
def IsRune (r : Int) : Prop := 0 ≤ r ∧ (r < 55296 ∨ 57343 < r) ∧ r ≤ 1114111

theorem app_any (B : Nat) (v : Value) (n : Nat) (xs : List Value) (r : Int) (hr : IsRune r) (hna : 128 ≤ r) (w : World) (hown : w.ownsRowF B 5 1 v n xs) (hlen : n + 4 ≤ 140737488355328) (hBw : B ≤ w.heap.size) :
    Calls Try.prog 46 #[v, .int .i32 r] w fun e w' => AppPost B v n xs (Lib.runeCells r) w e w' := by
  obtain ⟨_, hs, hm⟩ := hr
  by_cases c1 : r ≤ 2047
  · rw [show Lib.runeCells r = [.int .u8 (192 + r / 64), .int .u8 (128 + r % 64)] by simp [Lib.runeCells, Lib.encodeRuneZ_two hna c1]]
    exact app2 B v n xs r hna c1 w hown hlen hBw
  by_cases c2 : r < 55296
  · rw [show Lib.runeCells r = [.int .u8 (224 + r / 4096), .int .u8 (128 + r / 64 % 64), .int .u8 (128 + r % 64)] by simp [Lib.runeCells, Lib.encodeRuneZ_three (Or.inl ⟨by omega, c2⟩)]]
    exact app3lo B v n xs r (by omega) c2 w hown hlen hBw
  by_cases c4 : r ≤ 65535
  · rw [show Lib.runeCells r = [.int .u8 (224 + r / 4096), .int .u8 (128 + r / 64 % 64), .int .u8 (128 + r % 64)] by simp [Lib.runeCells, Lib.encodeRuneZ_three (Or.inr ⟨by omega, c4⟩)]]
    exact app3hi B v n xs r (by omega) c4 w hown hlen hBw
  · rw [show Lib.runeCells r = [.int .u8 (240 + r / 262144), .int .u8 (128 + r / 4096 % 64), .int .u8 (128 + r / 64 % 64), .int .u8 (128 + r % 64)] by simp [Lib.runeCells, Lib.encodeRuneZ_four (by omega) hm]]
    exact app4 B v n xs r (by omega) hm w hown hlen hBw

set_option maxHeartbeats 4000000 in
set_option maxRecDepth 100000 in
theorem rune_app (B : Nat) (v : Value) (n : Nat) (xs : List Value) (r : Int) (hr : IsRune r) (w : World) (hown : w.ownsRowF B 5 1 v n xs) (hlen : n + 4 ≤ 140737488355328) (hBw : B ≤ w.heap.size) :
    Calls Try.prog 41 #[v, .int .i32 r] w fun e w' => AppPost B v n xs (Lib.runeCells r) w e w' := by
  obtain ⟨i0, hi, hz0, hz1, hz2⟩ := info_parts Try.info5
  have h0 := hr.1
  have hm := hr.2.2
  by_cases c : r ≤ 127
  · rw [show Lib.runeCells r = [.int .u8 r] by simp [Lib.runeCells, Lib.encodeRuneZ_one h0 c]]
    go_enter Try.func41, Try.ntmps41
    go_wp2_with (at_builtin; refine wpList_append_ownF _ rfl _ _ 22 rfl B 5 i0 (.int .u8 0) 1 1 Try.underlying22 hi hz0 hz1 hz2 rfl (by decide) _ _ _ rfl (hown.alloc _) ⟨w.heap.size, 0, none⟩ 1 1 [.int .u8 r] rfl rfl ?c1 ?c2 ?c3 ?c4 ?c5 ?_)
    all_goals first
      | (intro v' w2 hown' hgrow _; go_wp2; go_ret; exact ⟨_, rfl, hown', _, hgrow⟩)
      | (unfold maxLen; omega)
      | omega
      | (simp; omega)
      | rfl
      | (intro u hu; simp at hu; subst hu; rfl)
      | (intro j u hj
         match j, hj with
         | 0, hj => simp at hj; subst hj; simp [Addr.add]
         | (j + 1), hj => simp at hj)
  · have HC := fun W h1 h2 => app_any B v n xs r hr (by omega) W h1 hlen h2
    have HX : Hid (∀ W, W.ownsRowF B 5 1 v n xs → B ≤ W.heap.size → Calls Try.prog 46 #[v, .int .i32 r] W fun e w' => AppPost B v n xs (Lib.runeCells r) W e w') := HC
    clear HC hr
    go_enter Try.func41, Try.ntmps41
    go_wp2_with (go_at_call 46; refine (HX.out _ hown hBw).mono ?_)
    rintro e w1 ⟨v', rfl, h1, o, h2⟩
    go_wp2
    go_ret
    exact ⟨_, rfl, h1, o, h2⟩

set_option maxHeartbeats 4000000 in
set_option maxRecDepth 100000 in
theorem rune_wr (B b : Nat) (bs : List Value) (r : Int) (hr : IsRune r) (w : World) (h : Bld B b bs w) (hlen : bs.length + 4 ≤ 140737488355328) (hBw : B ≤ w.heap.size) :
    Calls Try.prog 37 #[.pointer (some ⟨b, 0, none⟩), .int .i32 r] w fun e w' => e = .returned (.tuple #[.int .i64 (Lib.runeCells r).length, .nilIface]) ∧ BldU B b (bs ++ Lib.runeCells r) w' ∧ Kept B b w w' := by
  have hk4 := Lib.runeCells_le r
  go_enter Try.func37, Try.ntmps37
  go_wp2_with (go_at_call 34; refine (copy_any B b bs _ h).mono ?_)
  rintro e w1 ⟨rfl, h1, hb1, hk1⟩
  obtain ⟨hB, v, hbk, hown, hne⟩ := h1
  obtain ⟨ao, cap, rfl⟩ : ∃ ao cap, v = .slice ao bs.length cap := by
    rcases hown.2 with ⟨hv, h0⟩ | ⟨g, cap, cur, fz, hv, _⟩
    · exact ⟨none, 0, by rw [hv, h0]⟩
    · exact ⟨_, _, hv⟩
  obtain ⟨hlt, c0, c1, _⟩ := cells_of hbk
  go_wp2_with (go_at_call 41; refine (rune_app B _ bs.length bs r hr _ hown hlen (by have := hb1.size; omega)).mono ?_)
  rintro e w2 ⟨v', rfl, hown', o, hgrow⟩
  have hb2 := block_on hbk hne hgrow
  obtain ⟨_, d0, d1, f1⟩ := cells_of hb2
  obtain ⟨g, cap', rfl⟩ : ∃ g cap', v' = .slice (some ⟨g, 0, none⟩) (bs.length + (Lib.runeCells r).length) cap' := by
    rcases hown'.2 with ⟨_, h0⟩ | ⟨g, cap', cur, fz, hv, _⟩
    · omega
    · exact ⟨g, cap', hv⟩
  go_wp2
  go_ret2
  refine ⟨?_, ?_, ?_, ((hk1.alloc _).grown hgrow (Lib.ownsRowF_kind (hown.alloc _))).setCell ⟨b, 1, none⟩ rfl _⟩
  · have e : ((bs.length : Int) + ((Lib.runeCells r).length : Int) - (bs.length : Int)) = ((Lib.runeCells r).length : Int) := by omega
    simp [e]
  · exact Lib.BuilderAtF.put (T := 41) (e := 5) hB hb2 (bs' := bs ++ Lib.runeCells r) (by simpa using hown') (by decide)
  · exact ((hb1.alloc (by have := hb1.size; omega) _).grown hgrow (by have := hb1.size; simp; omega) (fun k hk => (hown.lt k hk).1)).setCell (p := ⟨b, 1, none⟩) hB _

end Go.Proofs.Qxb6601896a
