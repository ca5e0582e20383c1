/- strings.ContainsRune at the seven escaped characters. -/
import Derived.Test.Qxb6601896aRune
import Derived.Deep.QuietTactic
import Derived.BigQuiet
import Derived.Laws.RangeAny
namespace Go.Proofs.Qxb6601896a
open Go.RowKit
set_option linter.unusedVariables false

theorem hide {p : Prop} (h : p) : Hid p := h

/-- The characters that are escaped wherever they stand. -/
def SP : ByteArray := ⟨#[34, 43, 44, 59, 60, 62, 92]⟩

set_option maxHeartbeats 1000000 in
set_option maxRecDepth 100000 in
theorem valid_any (r : Int) (hr : IsRune r) (w : World) : Calls Try.prog 43 #[.int .i32 r] w fun e w' => e = .returned (.bool true) ∧ w' = w := by
  obtain ⟨h0, hs, hm⟩ := hr
  rcases hs with hs | hs
  · go_enter Try.func43, Try.ntmps43
    go_wp2
    go_ret
    exact ⟨rfl, rfl⟩
  · go_enter Try.func43, Try.ntmps43
    go_wp2
    go_ret
    exact ⟨rfl, rfl⟩

theorem idx_none (l : List UInt8) (y : UInt8) (h : ∀ x ∈ l, x ≠ y) : Lib.indexByte l y = -1 := by
  induction l with
  | nil => rfl
  | cons a l ih =>
    unfold Lib.indexByte
    rw [ih (fun x hx => h x (List.mem_cons_of_mem _ hx)), if_neg (by simpa using h a (List.mem_cons_self ..))]
    rfl

/-- Nothing of the seven is a byte of 128 or more. -/
theorem sp_none (a b : Nat) (y : UInt8) (hy : 128 ≤ y.toNat) : Lib.indexByte ((⟨#[34, 43, 44, 59, 60, 62, 92]⟩ : ByteArray).extract a b).data.toList y = -1 := by
  refine idx_none _ _ (fun x hx e => ?_)
  subst e
  rw [Lib.extract_data] at hx
  have hm : x ∈ ([34, 43, 44, 59, 60, 62, 92] : List UInt8) := List.mem_of_mem_drop (List.mem_of_mem_take hx)
  simp only [List.mem_cons, List.not_mem_nil, or_false] at hm
  rcases hm with rfl | rfl | rfl | rfl | rfl | rfl | rfl <;> simp at hy

theorem enc_two (r : Int) (hr : IsRune r) (h0 : 128 ≤ r) (h1 : r ≤ 2047) : ∃ x0 y : UInt8, Utf8.encode r = ⟨#[x0, y]⟩ ∧ 128 ≤ y.toNat := by
  obtain ⟨_, hs, hm⟩ := hr
  have hv : Utf8.valid r = true := by simp [Utf8.valid]; omega
  unfold Utf8.encode
  simp only [hv, if_true]
  rw [if_neg (by omega), if_pos (by omega)]
  exact ⟨_, _, rfl, by simp; omega⟩

set_option maxHeartbeats 1000000 in
set_option maxRecDepth 100000 in
theorem idx_two (r : Int) (hr : IsRune r) (h0 : 128 ≤ r) (h1 : r ≤ 2047) (he : (r == 65533) = false) (w : World) :
    Calls Try.prog 40 #[.string ⟨#[34, 43, 44, 59, 60, 62, 92]⟩, .int .i32 r] w fun e w' => e = .returned (.int .i64 (-1)) ∧ ∃ n, w' = w.drewN n := by
  have HV := hide (fun W => valid_any r hr W)
  obtain ⟨x0, y, hrs, hy⟩ := enc_two r hr h0 h1
  have hlt : decide (r < 128) = false := by simp; omega
  have HI : Hid (∀ W, Calls Try.prog 42 #[.string ((⟨#[34, 43, 44, 59, 60, 62, 92]⟩ : ByteArray).extract 2 7), .int .u8 (((⟨#[x0, y]⟩ : ByteArray)[1]'(by show 1 < 2; omega)).toNat : Int)] W fun e w' => e = .returned (.int .i64 (-1)) ∧ w' = W) := by
    intro W
    refine (Try.strings_IndexByte _ _ W).mono ?_
    rintro e w' ⟨rfl, rfl⟩
    refine ⟨?_, rfl⟩
    have hyy : ((((⟨#[x0, y]⟩ : ByteArray)[1]'(by show 1 < 2; omega)).toNat : Int)).toNat.toUInt8 = y := by
      show (((y.toNat : Nat) : Int)).toNat.toUInt8 = y
      simp
    rw [hyy, sp_none _ _ y hy]
  have hne : ((((⟨#[34, 43, 44, 59, 60, 62, 92]⟩ : ByteArray)[1]'(by decide)).toNat : Int) != (((⟨#[x0, y]⟩ : ByteArray)[1]'(by show 1 < 2; omega)).toNat : Int)) = true := by
    show (((43 : Nat) : Int) != (y.toNat : Int)) = true
    rw [bne_iff_ne]
    omega
  clear hr hy
  go_enter Try.func40, Try.ntmps40
  go_wp2_with (go_at_call 43; refine (HV.out _).mono ?_; rintro e w' ⟨rfl, hw⟩; have hw2 := hw.symm; subst hw2; clear hw)
  go_step3
  go_wp2
  refine wp_loop_rounds 1 ?_
  rw [rounds_succ]
  go_wp2
  go_step3
  go_wp2
  go_quiet (fail)
  go_wp2
  go_quiet ((go_at_call 42; refine (HI.out _).mono ?_; rintro e w' ⟨rfl, rfl⟩; exact ⟨rfl, _, rfl⟩))
  go_wp2
  rw [Exit.noGoto_ret]
  go_wp2
  rw [Exit.noGoto_ret]
  go_wp2
  go_ret
  exact ⟨rfl, _, rfl⟩

theorem enc_three (r : Int) (hr : IsRune r) (h0 : 2048 ≤ r) (h1 : r ≤ 65535) : ∃ x0 x1 y : UInt8, Utf8.encode r = ⟨#[x0, x1, y]⟩ ∧ 128 ≤ y.toNat := by
  obtain ⟨_, hs, hm⟩ := hr
  have hv : Utf8.valid r = true := by simp [Utf8.valid]; omega
  unfold Utf8.encode
  simp only [hv, if_true]
  rw [if_neg (by omega), if_neg (by omega), if_pos (by omega)]
  exact ⟨_, _, _, rfl, by simp; omega⟩

set_option maxHeartbeats 1000000 in
set_option maxRecDepth 100000 in
theorem idx_three (r : Int) (hr : IsRune r) (h0 : 2048 ≤ r) (h1 : r ≤ 65535) (he : (r == 65533) = false) (w : World) :
    Calls Try.prog 40 #[.string ⟨#[34, 43, 44, 59, 60, 62, 92]⟩, .int .i32 r] w fun e w' => e = .returned (.int .i64 (-1)) ∧ ∃ n, w' = w.drewN n := by
  have HV := hide (fun W => valid_any r hr W)
  obtain ⟨x0, x1, y, hrs, hy⟩ := enc_three r hr h0 h1
  have hlt : decide (r < 128) = false := by simp; omega
  have HI : Hid (∀ W, Calls Try.prog 42 #[.string ((⟨#[34, 43, 44, 59, 60, 62, 92]⟩ : ByteArray).extract 3 7), .int .u8 (((⟨#[x0, x1, y]⟩ : ByteArray)[2]'(by show 2 < 3; omega)).toNat : Int)] W fun e w' => e = .returned (.int .i64 (-1)) ∧ w' = W) := by
    intro W
    refine (Try.strings_IndexByte _ _ W).mono ?_
    rintro e w' ⟨rfl, rfl⟩
    refine ⟨?_, rfl⟩
    have hyy : ((((⟨#[x0, x1, y]⟩ : ByteArray)[2]'(by show 2 < 3; omega)).toNat : Int)).toNat.toUInt8 = y := by
      show (((y.toNat : Nat) : Int)).toNat.toUInt8 = y
      simp
    rw [hyy, sp_none _ _ y hy]
  have hne : ((((⟨#[34, 43, 44, 59, 60, 62, 92]⟩ : ByteArray)[2]'(by decide)).toNat : Int) != (((⟨#[x0, x1, y]⟩ : ByteArray)[2]'(by show 2 < 3; omega)).toNat : Int)) = true := by
    show (((44 : Nat) : Int) != (y.toNat : Int)) = true
    rw [bne_iff_ne]
    omega
  clear hr hy
  go_enter Try.func40, Try.ntmps40
  go_wp2_with (go_at_call 43; refine (HV.out _).mono ?_; rintro e w' ⟨rfl, hw⟩; have hw2 := hw.symm; subst hw2; clear hw)
  go_step3
  go_wp2
  refine wp_loop_rounds 1 ?_
  rw [rounds_succ]
  go_wp2
  go_step3
  go_wp2
  go_quiet (fail)
  go_wp2
  go_quiet ((go_at_call 42; refine (HI.out _).mono ?_; rintro e w' ⟨rfl, rfl⟩; exact ⟨rfl, _, rfl⟩))
  go_wp2
  rw [Exit.noGoto_ret]
  go_wp2
  rw [Exit.noGoto_ret]
  go_wp2
  go_ret
  exact ⟨rfl, _, rfl⟩

theorem enc_four (r : Int) (hr : IsRune r) (h0 : 65536 ≤ r) (h1 : r ≤ 1114111) : ∃ x0 x1 x2 y : UInt8, Utf8.encode r = ⟨#[x0, x1, x2, y]⟩ ∧ 128 ≤ y.toNat := by
  obtain ⟨_, hs, hm⟩ := hr
  have hv : Utf8.valid r = true := by simp [Utf8.valid]; omega
  unfold Utf8.encode
  simp only [hv, if_true]
  rw [if_neg (by omega), if_neg (by omega), if_neg (by omega)]
  exact ⟨_, _, _, _, rfl, by simp; omega⟩

set_option maxHeartbeats 1000000 in
set_option maxRecDepth 100000 in
theorem idx_four (r : Int) (hr : IsRune r) (h0 : 65536 ≤ r) (h1 : r ≤ 1114111) (he : (r == 65533) = false) (w : World) :
    Calls Try.prog 40 #[.string ⟨#[34, 43, 44, 59, 60, 62, 92]⟩, .int .i32 r] w fun e w' => e = .returned (.int .i64 (-1)) ∧ ∃ n, w' = w.drewN n := by
  have HV := hide (fun W => valid_any r hr W)
  obtain ⟨x0, x1, x2, y, hrs, hy⟩ := enc_four r hr h0 h1
  have hlt : decide (r < 128) = false := by simp; omega
  have HI : Hid (∀ W, Calls Try.prog 42 #[.string ((⟨#[34, 43, 44, 59, 60, 62, 92]⟩ : ByteArray).extract 4 7), .int .u8 (((⟨#[x0, x1, x2, y]⟩ : ByteArray)[3]'(by show 3 < 4; omega)).toNat : Int)] W fun e w' => e = .returned (.int .i64 (-1)) ∧ w' = W) := by
    intro W
    refine (Try.strings_IndexByte _ _ W).mono ?_
    rintro e w' ⟨rfl, rfl⟩
    refine ⟨?_, rfl⟩
    have hyy : ((((⟨#[x0, x1, x2, y]⟩ : ByteArray)[3]'(by show 3 < 4; omega)).toNat : Int)).toNat.toUInt8 = y := by
      show (((y.toNat : Nat) : Int)).toNat.toUInt8 = y
      simp
    rw [hyy, sp_none _ _ y hy]
  have hne : ((((⟨#[34, 43, 44, 59, 60, 62, 92]⟩ : ByteArray)[3]'(by decide)).toNat : Int) != (((⟨#[x0, x1, x2, y]⟩ : ByteArray)[3]'(by show 3 < 4; omega)).toNat : Int)) = true := by
    show (((59 : Nat) : Int) != (y.toNat : Int)) = true
    rw [bne_iff_ne]
    omega
  clear hr hy
  go_enter Try.func40, Try.ntmps40
  go_wp2_with (go_at_call 43; refine (HV.out _).mono ?_; rintro e w' ⟨rfl, hw⟩; have hw2 := hw.symm; subst hw2; clear hw)
  go_step3
  go_wp2
  refine wp_loop_rounds 1 ?_
  rw [rounds_succ]
  go_wp2
  go_step3
  go_wp2
  go_quiet (fail)
  go_wp2
  go_quiet ((go_at_call 42; refine (HI.out _).mono ?_; rintro e w' ⟨rfl, rfl⟩; exact ⟨rfl, _, rfl⟩))
  go_wp2
  rw [Exit.noGoto_ret]
  go_wp2
  rw [Exit.noGoto_ret]
  go_wp2
  go_ret
  exact ⟨rfl, _, rfl⟩


theorem sp_byte (k : Nat) (hk : k < (⟨#[34, 43, 44, 59, 60, 62, 92]⟩ : ByteArray).size) : ((⟨#[34, 43, 44, 59, 60, 62, 92]⟩ : ByteArray)[k]'hk).toNat < 128 := by
  have hk7 : k < 7 := hk
  match k, hk7 with
  | 0, _ => show (34 : Nat) < 128; omega
  | 1, _ => show (43 : Nat) < 128; omega
  | 2, _ => show (44 : Nat) < 128; omega
  | 3, _ => show (59 : Nat) < 128; omega
  | 4, _ => show (60 : Nat) < 128; omega
  | 5, _ => show (62 : Nat) < 128; omega
  | 6, _ => show (92 : Nat) < 128; omega

set_option maxHeartbeats 1000000 in
set_option maxRecDepth 100000 in
theorem idx_err (w : World) :
    Calls Try.prog 40 #[.string ⟨#[34, 43, 44, 59, 60, 62, 92]⟩, .int .i32 65533] w fun e w' => e = .returned (.int .i64 (-1)) ∧ ∃ p, w' = w.iter ⟨#[34, 43, 44, 59, 60, 62, 92]⟩ p := by
  go_enter Try.func40, Try.ntmps40
  go_wp2
  go_loopw [] (fun wr => ∃ p, p ≤ 7 ∧ wr = w.iter ⟨#[34, 43, 44, 59, 60, 62, 92]⟩ p) (fun wr => 7 - wr.iterPos w.heap.size)
  case atStart => exact ⟨0, by omega, rfl⟩
  case round =>
    obtain ⟨p, hp, rfl⟩ := hrel
    by_cases h : p < 7
    · have hb := sp_byte p h
      have hnx : ∀ ty, (Instr.next (.pointer (some ⟨w.heap.size, 0, none⟩)) true ty).run Try.prog (w.iter ⟨#[34, 43, 44, 59, 60, 62, 92]⟩ p) = _ := fun ty => run_next_ascii w ⟨#[34, 43, 44, 59, 60, 62, 92]⟩ p ty h hb
      have hne : ((((⟨#[34, 43, 44, 59, 60, 62, 92]⟩ : ByteArray)[p]'h).toNat : Int) == 65533) = false := by
        rw [beq_eq_false_iff_ne]; omega
      clear hb
      go_wp2
      go_roundw
      case rel => exact ⟨p + 1, by omega, rfl⟩
      case measure => simp [World.iterPos_iter]; omega
    · have hnx : ∀ ty, (Instr.next (.pointer (some ⟨w.heap.size, 0, none⟩)) true ty).run Try.prog (w.iter ⟨#[34, 43, 44, 59, 60, 62, 92]⟩ p) = _ := fun ty => run_next_end w ⟨#[34, 43, 44, 59, 60, 62, 92]⟩ p ty h
      go_wp2
      go_ret
      exact ⟨rfl, p, rfl⟩

def isSp (r : Int) : Bool := decide (r = 34 ∨ r = 43 ∨ r = 44 ∨ r = 59 ∨ r = 60 ∨ r = 62 ∨ r = 92)

theorem isSp_ascii (r : Int) (h0 : 0 ≤ r) (h1 : r < 128) : decide (0 ≤ Lib.indexByte (⟨#[34, 43, 44, 59, 60, 62, 92]⟩ : ByteArray).data.toList r.toNat.toUInt8) = isSp r := by
  obtain ⟨k, rfl⟩ := Int.eq_ofNat_of_zero_le h0
  have hk : k < 128 := by omega
  have h : ∀ k : Fin 128, decide (0 ≤ Lib.indexByte [34, 43, 44, 59, 60, 62, 92] (k.val : Int).toNat.toUInt8) = isSp (k.val : Int) := by decide +kernel
  exact h ⟨k, hk⟩

/-- What the look-up leaves: draws, or one iterator more. -/
def Looked (w w' : World) : Prop := (∃ n, w' = w.drewN n) ∨ ∃ p, w' = w.iter ⟨#[34, 43, 44, 59, 60, 62, 92]⟩ p

theorem idx_any (r : Int) (hr : IsRune r) (hna : 128 ≤ r) (w : World) :
    Calls Try.prog 40 #[.string ⟨#[34, 43, 44, 59, 60, 62, 92]⟩, .int .i32 r] w fun e w' => e = .returned (.int .i64 (-1)) ∧ Looked w w' := by
  by_cases he : r = 65533
  · subst he
    exact (idx_err w).mono fun e w' ⟨h1, p, h2⟩ => ⟨h1, Or.inr ⟨p, h2⟩⟩
  · have hb : (r == 65533) = false := by simpa using he
    have hm := hr.2.2
    by_cases c1 : r ≤ 2047
    · exact (idx_two r hr hna c1 hb w).mono fun e w' ⟨h1, p, h2⟩ => ⟨h1, Or.inl ⟨p, h2⟩⟩
    · by_cases c2 : r ≤ 65535
      · exact (idx_three r hr (by omega) c2 hb w).mono fun e w' ⟨h1, p, h2⟩ => ⟨h1, Or.inl ⟨p, h2⟩⟩
      · exact (idx_four r hr (by omega) hm hb w).mono fun e w' ⟨h1, p, h2⟩ => ⟨h1, Or.inl ⟨p, h2⟩⟩

theorem cont_any (r : Int) (hr : IsRune r) (w : World) :
    Calls Try.prog 35 #[.string ⟨#[34, 43, 44, 59, 60, 62, 92]⟩, .int .i32 r] w fun e w' => e = .returned (.bool (isSp r)) ∧ Looked w w' := by
  by_cases c : r < 128
  · refine (Try.strings_ContainsRune_ascii _ r w hr.1 c).mono ?_
    rintro e w' ⟨rfl, rfl⟩
    exact ⟨by rw [isSp_ascii r hr.1 c], Or.inl ⟨0, rfl⟩⟩
  · have e : isSp r = false := by unfold isSp; simp; omega
    rw [e]
    have HI := hide (fun W => idx_any r hr (by omega) W)
    clear hr
    go_enter Try.func35, Try.ntmps35
    go_wp2_with (go_at_call 40; refine (HI.out _).mono ?_; rintro e w' ⟨rfl, hw⟩)
    go_ret
    exact ⟨rfl, hw⟩
end Go.Proofs.Qxb6601896a
