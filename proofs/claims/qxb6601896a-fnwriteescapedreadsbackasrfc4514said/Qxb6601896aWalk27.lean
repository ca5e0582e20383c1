/- The walk of writeEscaped. -/
import Derived.Test.Qxb6601896aClone
import Derived.Laws.BytesArg
import Derived.Laws.IdiomStrings
namespace Go.Proofs.Qxb6601896a
open Go.RowKit
set_option linter.unusedVariables false

/-- The state between two calls: the builder holds bs; the iterator stands in block K at pos. -/
def St (B b K : Nat) (s : ByteArray) (pos : Nat) (bs : List Value) (w : World) : Prop := Bld B b bs w ∧ w.heap[K]? = some (.stringIter s pos) ∧ B ≤ w.heap.size

theorem below_dn {B : Nat} (w : World) (n : Nat) : Below B w (w.drewN n) := ⟨rfl, rfl, rfl, Nat.le_refl _, fun _ _ => rfl⟩
theorem size_mk (l : List UInt8) : (⟨l.toArray⟩ : ByteArray).size = l.length := by show l.toArray.size = _; simp

theorem bld_drewN {B b : Nat} {bs : List Value} {w : World} (h : Bld B b bs w) (n : Nat) : Bld B b bs (w.drewN n) := h

theorem St.looked {B b K : Nat} {s : ByteArray} {pos : Nat} {bs : List Value} {w w' : World} (h : St B b K s pos bs w) (hl : Looked w w') : St B b K s pos bs w' ∧ Below B w w' := by
  obtain ⟨h1, h2, h3⟩ := h
  rcases hl with ⟨n, rfl⟩ | ⟨p, rfl⟩
  · exact ⟨⟨h1, h2, h3⟩, below_dn _ n⟩
  · refine ⟨⟨Lib.IsBuilderF.alloc h1 _, ?_, ?_⟩, (Below.refl _ _).alloc h3 _⟩
    · rw [← h2]
      exact Lib.alloc_old w _ K (Array.getElem?_eq_some_iff.1 h2).1
    · show B ≤ (w.alloc _).heap.size
      simp; omega

theorem St.wrote {B b K : Nat} {s : ByteArray} {pos : Nat} {bs bs' : List Value} {w w' : World} (h : St B b K s pos bs w) (hK : K ≠ b) (hu : BldU B b bs' w') (hk : Kept B b w w') : St B b K s pos bs' w' ∧ Below B w w' := by
  refine ⟨⟨hu.bld, hk.2.iter h.2.1 hK, ?_⟩, hk.1⟩
  have := hk.1.size
  have := h.2.2
  omega

/-- .. and nothing below B has turned since w0. -/
def Stt (B b K : Nat) (s : ByteArray) (pos : Nat) (bs : List Value) (w0 w : World) : Prop := St B b K s pos bs w ∧ Below B w0 w

theorem byte_st (B b K : Nat) (s : ByteArray) (pos : Nat) (bs : List Value) (c : Int) (w0 w : World) (h : Stt B b K s pos bs w0 w) (hK : K ≠ b) (hlen : bs.length + 1 ≤ 140737488355328) :
    Calls Try.prog 36 #[.pointer (some ⟨b, 0, none⟩), .int .u8 c] w fun e w' => e = .returned .nilIface ∧ Stt B b K s pos (bs ++ [.int .u8 c]) w0 w' := by
  refine (byte_wr B b bs c w h.1.1 hlen h.1.2.2).mono ?_
  rintro e w' ⟨rfl, h1, h2⟩
  have := h.1.wrote hK h1 h2
  exact ⟨rfl, this.1, h.2.trans this.2⟩

theorem rune_st (B b K : Nat) (s : ByteArray) (pos : Nat) (bs : List Value) (r : Int) (w0 w : World) (hr : IsRune r) (h : Stt B b K s pos bs w0 w) (hK : K ≠ b) (hlen : bs.length + 4 ≤ 140737488355328) :
    Calls Try.prog 37 #[.pointer (some ⟨b, 0, none⟩), .int .i32 r] w fun e w' => e = .returned (.tuple #[.int .i64 (Lib.runeCells r).length, .nilIface]) ∧ Stt B b K s pos (bs ++ Lib.runeCells r) w0 w' := by
  refine (rune_wr B b bs r hr w h.1.1 hlen h.1.2.2).mono ?_
  rintro e w' ⟨rfl, h1, h2⟩
  have := h.1.wrote hK h1 h2
  exact ⟨rfl, this.1, h.2.trans this.2⟩

theorem cont_st (B b K : Nat) (s : ByteArray) (pos : Nat) (bs : List Value) (r : Int) (w0 w : World) (hr : IsRune r) (h : Stt B b K s pos bs w0 w) :
    Calls Try.prog 35 #[.string ⟨#[34, 43, 44, 59, 60, 62, 92]⟩, .int .i32 r] w fun e w' => e = .returned (.bool (isSp r)) ∧ Stt B b K s pos bs w0 w' := by
  refine (cont_any r hr w).mono ?_
  rintro e w' ⟨rfl, h1⟩
  have := h.1.looked h1
  exact ⟨rfl, this.1, h.2.trans this.2⟩

theorem bc_app (a b : List UInt8) : Lib.byteCells (a ++ b) = Lib.byteCells a ++ Lib.byteCells b := Lib.byteCells_append a b

theorem cells_esc (acc : List UInt8) (r : Int) : Lib.byteCells acc ++ [.int .u8 92] ++ Lib.runeCells r = Lib.byteCells (acc ++ (92 :: Lib.encodeRune r)) := by
  rw [bc_app, ← Lib.byteCells_encodeRune, List.append_assoc]; rfl

theorem cells_plain (acc : List UInt8) (r : Int) : Lib.byteCells acc ++ Lib.runeCells r = Lib.byteCells (acc ++ Lib.encodeRune r) := by
  rw [bc_app, ← Lib.byteCells_encodeRune]

theorem dec_rune (l : List UInt8) : IsRune ((Lib.decodeL l).1 : Int) := by
  rw [Lib.decodeL_N]
  have k0 := (l.getD 0 0).toNat_lt
  rcases Lib.decodeN_shape l.length (l.getD 0 0).toNat (l.getD 1 0).toNat (l.getD 2 0).toNat (l.getD 3 0).toNat with ⟨x, e⟩ | ⟨c1, c2, c3, cv, e⟩ | ⟨c1, c2, c3, c4, cv, cs, e⟩ | ⟨c1, c2, c3, c4, c5, cv, cw, e⟩ | e
  all_goals (rw [e]; unfold IsRune; simp only; omega)

/-- What the round's relation says. -/
def Rel27 (B b K : Nat) (l : List UInt8) (w wr : World) : Prop :=
  ∃ (pos f : Nat) (acc : List UInt8), St B b K ⟨l.toArray⟩ pos (Lib.byteCells acc) wr ∧ Below B w wr ∧ acc ++ escR l.length f pos (l.drop pos) = esc l ∧ l.length ≤ pos + f ∧ pos ≤ l.length ∧ acc.length ≤ 3 * pos

theorem and15 (r : Nat) (h : r < 128) : bits BinOp.and IntKind.i32 (r : Int) 15 = ((r % 16 : Nat) : Int) := by
  have k : ∀ r : Fin 128, bits BinOp.and IntKind.i32 (r.val : Int) 15 = ((r.val % 16 : Nat) : Int) := by decide +kernel
  exact k ⟨r, h⟩

theorem hex_lit (k : Nat) (h : k < (⟨#[48, 49, 50, 51, 52, 53, 54, 55, 56, 57, 97, 98, 99, 100, 101, 102]⟩ : ByteArray).size) :
    (⟨#[48, 49, 50, 51, 52, 53, 54, 55, 56, 57, 97, 98, 99, 100, 101, 102]⟩ : ByteArray)[k]'h = hexD (k : Int) := by
  have q : ∀ k : Fin 16, (⟨#[48, 49, 50, 51, 52, 53, 54, 55, 56, 57, 97, 98, 99, 100, 101, 102]⟩ : ByteArray)[k.val]'(k.isLt) = hexD (k.val : Int) := by decide +kernel
  exact q ⟨k, h⟩

theorem cells_ctl (acc : List UInt8) (r : Nat) (hr : r < 128) (h1 : r / 16 < (⟨#[48, 49, 50, 51, 52, 53, 54, 55, 56, 57, 97, 98, 99, 100, 101, 102]⟩ : ByteArray).size)
    (h2 : r % 16 < (⟨#[48, 49, 50, 51, 52, 53, 54, 55, 56, 57, 97, 98, 99, 100, 101, 102]⟩ : ByteArray).size) :
    Lib.byteCells acc ++ [.int .u8 92] ++ [.int .u8 (((⟨#[48, 49, 50, 51, 52, 53, 54, 55, 56, 57, 97, 98, 99, 100, 101, 102]⟩ : ByteArray)[r / 16]'h1).toNat : Int)] ++
      [.int .u8 (((⟨#[48, 49, 50, 51, 52, 53, 54, 55, 56, 57, 97, 98, 99, 100, 101, 102]⟩ : ByteArray)[r % 16]'h2).toNat : Int)] = Lib.byteCells (acc ++ [92, hexD ((r : Int) / 16), hexD ((r : Int) % 16)]) := by
  rw [hex_lit _ h1, hex_lit _ h2, bc_app, Int.natCast_ediv, Int.natCast_emod, List.append_assoc, List.append_assoc]
  rfl

/-- The round's end: one rune further. -/
theorem rel_step {B b K : Nat} {l : List UInt8} {w wr W : World} {pos f r wd : Nat} {acc it : List UInt8} (hacc : acc ++ escR l.length f pos (l.drop pos) = esc l) (hd : Lib.decodeL (l.drop pos) = (r, wd)) (hp : pos < l.length)
    (hfu : l.length ≤ pos + f) (hw1 : 1 ≤ wd) (hw2 : wd ≤ l.length - pos) (hal : acc.length ≤ 3 * pos) (hpos : wr.iterPos K = pos) (hit : item l.length pos r = it)
    (hst : Stt B b K ⟨l.toArray⟩ (pos + wd) (Lib.byteCells (acc ++ it)) w W) : Rel27 B b K l w W ∧ l.length - W.iterPos K < l.length - wr.iterPos K := by
  have hne : l.drop pos ≠ [] := by intro e; have := congrArg List.length e; rw [List.length_drop] at this; simp at this; omega
  obtain ⟨f, rfl⟩ : ∃ f', f = f' + 1 := ⟨f - 1, by omega⟩
  have hi := (item_ok l.length pos (l.drop pos) hne).2.2
  rw [hd] at hi
  simp only at hi
  rw [hit] at hi
  refine ⟨⟨pos + wd, f, acc ++ it, hst.1, hst.2, ?_, by omega, by omega, by rw [List.length_append]; omega⟩, ?_⟩
  · rw [← hacc]
    conv => rhs; unfold escR
    rw [if_neg hne, hd]
    simp only
    rw [hit, List.append_assoc, List.drop_drop]
  · have : W.iterPos K = pos + wd := by unfold World.iterPos; rw [hst.1.2.1]
    omega

set_option maxHeartbeats 4000000 in
set_option maxRecDepth 100000 in
theorem walk27 (B b : Nat) (ao : Option Addr) (cap : Nat) (l : List UInt8) (w : World) (hlen : l.length ≤ 1048576) (hb : Bld B b [] w) (hBw : B ≤ w.heap.size) (hbw : b < w.heap.size)
    (hcv : (convert 22 9 (.slice ao l.length cap)).run Try.prog w = .ok (.string ⟨l.toArray⟩) w) :
    Calls Try.prog 27 #[.pointer (some ⟨b, 0, none⟩), .slice ao l.length cap] w fun e w' => e = .returned (.tuple #[]) ∧ Bld B b (Lib.byteCells (esc l)) w' ∧ Below B w w' := by
  go_enter Try.func27, Try.ntmps27
  go_wp2
  clear hcv
  go_loopw [] (fun wr => Rel27 B b w.heap.size l w wr) (fun wr => l.length - wr.iterPos w.heap.size)
  case atStart =>
    exact ⟨0, l.length, [], ⟨Lib.IsBuilderF.alloc hb _, World.iter_heap w _ 0, by show B ≤ (w.alloc _).heap.size; simp; omega⟩, (Below.refl _ _).alloc hBw _, rfl, by omega, Nat.zero_le _, Nat.zero_le _⟩
  case round =>
    obtain ⟨pos, f, acc, hst, hbel, hacc, hfu, hpl, hal⟩ := hrel
    have HA := hide hacc
    clear hacc
    by_cases hp : pos < l.length
    · have hsz : pos < (⟨l.toArray⟩ : ByteArray).size := by rw [size_mk]; exact hp
      have hnx : ∀ ty, (Instr.next (.pointer (some ⟨w.heap.size, 0, none⟩)) true ty).run Try.prog wr = _ := fun ty => Lib.run_next_any_at wr w.heap.size ⟨l.toArray⟩ pos ty hst.2.1 hsz
      have hdl : Lib.decodeL (l.drop pos) = Utf8.decode ⟨l.toArray⟩ pos := Lib.decodeL_drop ⟨l.toArray⟩ pos
      have hne : l.drop pos ≠ [] := by intro e; have := congrArg List.length e; rw [List.length_drop] at this; simp at this; omega
      obtain ⟨_, hw1, hw2, _, hw4, hw5⟩ := enc_front (l.drop pos) hne
      have hrune := dec_rune (l.drop pos)
      obtain ⟨r, wd, hd⟩ : ∃ r wd, Utf8.decode ⟨l.toArray⟩ pos = (r, wd) := ⟨_, _, rfl⟩
      rw [hdl, hd] at hw1 hw2 hw4 hw5 hrune
      rw [hd] at hnx
      simp only at hw1 hw2 hw4 hw5 hrune hnx
      rw [List.length_drop] at hw2
      have HD := hide (hdl.trans hd)
      have HR := hide hrune
      have hr0 : (0 : Int) ≤ (r : Int) := by omega
      have hr1 := hrune.2.2
      have hst1 : St B b w.heap.size ⟨l.toArray⟩ (pos + wd) (Lib.byteCells acc) (wr.iterAt w.heap.size ⟨l.toArray⟩ (pos + wd)) :=
        ⟨hst.1.iterAt hst.2.1 _, Lib.iterAt_heap wr w.heap.size _ pos _ hst.2.1, by rw [Lib.iterAt_size]; exact hst.2.2⟩
      have hb1 : Below B w (wr.iterAt w.heap.size ⟨l.toArray⟩ (pos + wd)) := Lib.below_iterAt hbel hBw _ _
      have hst2 : Stt B b w.heap.size ⟨l.toArray⟩ (pos + wd) (Lib.byteCells acc) w (wr.iterAt w.heap.size ⟨l.toArray⟩ (pos + wd)) := ⟨hst1, hb1⟩
      have hit : wr.iterPos w.heap.size = pos := by unfold World.iterPos; rw [hst.2.1]
      have HIT := hide hit
      have hK : w.heap.size ≠ b := by omega
      have hbs : (Lib.byteCells acc).length ≤ 3145728 := by rw [Lib.byteCells_length]; omega
      have FIN : Hid (∀ (it : List UInt8) (W : World), item l.length pos r = it → Stt B b w.heap.size ⟨l.toArray⟩ (pos + wd) (Lib.byteCells (acc ++ it)) w W → Rel27 B b w.heap.size l w W ∧ l.length - W.iterPos w.heap.size < l.length - wr.iterPos w.heap.size) :=
        fun it W h1 h2 => rel_step HA.out HD.out hp hfu hw1 hw2 hal HIT.out h1 h2
      clear hsz hdl hd hrune hit hst hbel hne hst1 hb1 HIT HD HA hw1 hw2 hw4 hw5 hfu hal
      cases hsp : isSp (r : Int)
      · by_cases h32 : (r : Int) = 32
        · have b32 : ((r : Int) == 32) = true := by simpa using h32
          by_cases hz : pos = 0
          · have bz : ((pos : Int) == 0) = true := by simp; omega
            have hx := And.intro h32 hz
            clear h32 hz
            have HE : Hid (escB l.length pos r = true) := by show escB _ _ _ = true; unfold escB; simp; omega
            clear hx
            go_wp2_with (first | (go_at_call 35; refine (cont_st B b w.heap.size _ _ _ _ w _ HR.out (by assumption)).mono ?_; rw [hsp]; rintro e W1 ⟨rfl, hst3⟩) | (go_at_call 36; refine (byte_st B b w.heap.size _ _ _ _ w _ (by assumption) hK ?_).mono ?_; rotate_left; rintro e W1 ⟨rfl, hst3⟩) | (go_at_call 37; refine (rune_st B b w.heap.size _ _ _ _ w _ HR.out (by assumption) hK ?_).mono ?_; rotate_left; rintro e W1 ⟨rfl, hst3⟩))
            case roundEnd => exact FIN.out _ _ (by unfold item; rw [if_pos HE.out]) (by rw [← cells_esc]; assumption)
            all_goals (simp; omega)
          · have bz : ((pos : Int) == 0) = false := by simp; omega
            by_cases hl : pos + 1 = l.length
            · have bl : ((pos : Int) == (l.length : Int) - 1) = true := by simp; omega
              have hx := And.intro h32 hl
              clear h32 hz hl
              have HE : Hid (escB l.length pos r = true) := by show escB _ _ _ = true; unfold escB; simp; omega
              clear hx
              go_wp2_with (first | (go_at_call 35; refine (cont_st B b w.heap.size _ _ _ _ w _ HR.out (by assumption)).mono ?_; rw [hsp]; rintro e W1 ⟨rfl, hst3⟩) | (go_at_call 36; refine (byte_st B b w.heap.size _ _ _ _ w _ (by assumption) hK ?_).mono ?_; rotate_left; rintro e W1 ⟨rfl, hst3⟩) | (go_at_call 37; refine (rune_st B b w.heap.size _ _ _ _ w _ HR.out (by assumption) hK ?_).mono ?_; rotate_left; rintro e W1 ⟨rfl, hst3⟩))
              case roundEnd => exact FIN.out _ _ (by unfold item; rw [if_pos HE.out]) (by rw [← cells_esc]; assumption)
              all_goals (simp; omega)
            · have bl : ((pos : Int) == (l.length : Int) - 1) = false := by simp; omega
              have hx := And.intro hz hl
              clear hz hl h32
              have hr32 : (r : Int) = 32 := by simpa using b32
              have HE : Hid (escB l.length pos r = false) := by show escB _ _ _ = false; unfold escB; rw [show spB (r : Int) = false from hsp]; simp; omega
              have c1 : decide ((r : Int) < 32) = false := by simp; omega
              have c2 : ((r : Int) == 127) = false := by simp; omega
              have HN : Hid (ctlB r = false) := by show ctlB _ = false; unfold ctlB; simp; omega
              clear hx hr32
              go_wp2_with (first | (go_at_call 35; refine (cont_st B b w.heap.size _ _ _ _ w _ HR.out (by assumption)).mono ?_; rw [hsp]; rintro e W1 ⟨rfl, hst3⟩) | (go_at_call 36; refine (byte_st B b w.heap.size _ _ _ _ w _ (by assumption) hK ?_).mono ?_; rotate_left; rintro e W1 ⟨rfl, hst3⟩) | (go_at_call 37; refine (rune_st B b w.heap.size _ _ _ _ w _ HR.out (by assumption) hK ?_).mono ?_; rotate_left; rintro e W1 ⟨rfl, hst3⟩))
              case roundEnd => exact FIN.out _ _ (by unfold item; rw [if_neg (by rw [HE.out]; simp), if_neg (by rw [HN.out]; simp)]) (by rw [← cells_plain]; assumption)
              all_goals omega
        · have b32 : ((r : Int) == 32) = false := by simpa using h32
          by_cases hl : pos + 1 = l.length
          · have bl : ((pos : Int) == (l.length : Int) - 1) = true := by simp; omega
            by_cases hz : pos = 0
            · have bz : ((pos : Int) == 0) = true := by simp; omega
              by_cases h35 : (r : Int) = 35
              · have b35 : ((r : Int) == 35) = true := by simpa using h35
                have hx := And.intro h35 hz
                clear h32 hz hl h35
                have HE : Hid (escB l.length pos r = true) := by show escB _ _ _ = true; unfold escB; simp; omega
                clear hx
                go_wp2_with (first | (go_at_call 35; refine (cont_st B b w.heap.size _ _ _ _ w _ HR.out (by assumption)).mono ?_; rw [hsp]; rintro e W1 ⟨rfl, hst3⟩) | (go_at_call 36; refine (byte_st B b w.heap.size _ _ _ _ w _ (by assumption) hK ?_).mono ?_; rotate_left; rintro e W1 ⟨rfl, hst3⟩) | (go_at_call 37; refine (rune_st B b w.heap.size _ _ _ _ w _ HR.out (by assumption) hK ?_).mono ?_; rotate_left; rintro e W1 ⟨rfl, hst3⟩))
                case roundEnd => exact FIN.out _ _ (by unfold item; rw [if_pos HE.out]) (by rw [← cells_esc]; assumption)
                all_goals (simp; omega)
              · have b35 : ((r : Int) == 35) = false := by simpa using h35
                have hx := And.intro h35 h32
                clear h32 hz hl h35
                have HE : Hid (escB l.length pos r = false) := by show escB _ _ _ = false; unfold escB; rw [show spB (r : Int) = false from hsp]; simp; omega
                clear hx
                by_cases hc1 : (r : Int) < 32
                · have c1 : decide ((r : Int) < 32) = true := by simpa using hc1
                  have HN : Hid (ctlB r = true) := by show ctlB _ = true; unfold ctlB; simp; omega
                  have hr7 : r < 128 := by omega
                  have hand := and15 r hr7
                  have i1 : r / 16 < (⟨#[48, 49, 50, 51, 52, 53, 54, 55, 56, 57, 97, 98, 99, 100, 101, 102]⟩ : ByteArray).size := by show r / 16 < 16; omega
                  have i2 : r % 16 < (⟨#[48, 49, 50, 51, 52, 53, 54, 55, 56, 57, 97, 98, 99, 100, 101, 102]⟩ : ByteArray).size := by show r % 16 < 16; omega
                  have HCC := hide (cells_ctl acc r hr7 i1 i2)
                  go_wp2_with (first | (go_at_call 35; refine (cont_st B b w.heap.size _ _ _ _ w _ HR.out (by assumption)).mono ?_; rw [hsp]; rintro e W1 ⟨rfl, hst3⟩) | (go_at_call 36; refine (byte_st B b w.heap.size _ _ _ _ w _ (by assumption) hK ?_).mono ?_; rotate_left; rintro e W1 ⟨rfl, hst3⟩) | (go_at_call 37; refine (rune_st B b w.heap.size _ _ _ _ w _ HR.out (by assumption) hK ?_).mono ?_; rotate_left; rintro e W1 ⟨rfl, hst3⟩))
                  case roundEnd => exact FIN.out _ _ (by unfold item; rw [if_neg (by rw [HE.out]; simp), if_pos HN.out]) (by rw [← HCC.out]; assumption)
                  all_goals (simp; omega)
                · have c1 : decide ((r : Int) < 32) = false := by simpa using hc1
                  by_cases hc2 : (r : Int) = 127
                  · have c2 : ((r : Int) == 127) = true := by simpa using hc2
                    have HN : Hid (ctlB r = true) := by show ctlB _ = true; unfold ctlB; simp; omega
                    have hr7 : r < 128 := by omega
                    have hand := and15 r hr7
                    have i1 : r / 16 < (⟨#[48, 49, 50, 51, 52, 53, 54, 55, 56, 57, 97, 98, 99, 100, 101, 102]⟩ : ByteArray).size := by show r / 16 < 16; omega
                    have i2 : r % 16 < (⟨#[48, 49, 50, 51, 52, 53, 54, 55, 56, 57, 97, 98, 99, 100, 101, 102]⟩ : ByteArray).size := by show r % 16 < 16; omega
                    have HCC := hide (cells_ctl acc r hr7 i1 i2)
                    clear hc1 hc2
                    go_wp2_with (first | (go_at_call 35; refine (cont_st B b w.heap.size _ _ _ _ w _ HR.out (by assumption)).mono ?_; rw [hsp]; rintro e W1 ⟨rfl, hst3⟩) | (go_at_call 36; refine (byte_st B b w.heap.size _ _ _ _ w _ (by assumption) hK ?_).mono ?_; rotate_left; rintro e W1 ⟨rfl, hst3⟩) | (go_at_call 37; refine (rune_st B b w.heap.size _ _ _ _ w _ HR.out (by assumption) hK ?_).mono ?_; rotate_left; rintro e W1 ⟨rfl, hst3⟩))
                    case roundEnd => exact FIN.out _ _ (by unfold item; rw [if_neg (by rw [HE.out]; simp), if_pos HN.out]) (by rw [← HCC.out]; assumption)
                    all_goals (simp; omega)
                  · have c2 : ((r : Int) == 127) = false := by simpa using hc2
                    have HN : Hid (ctlB r = false) := by show ctlB _ = false; unfold ctlB; simp; omega
                    clear hc1 hc2
                    go_wp2_with (first | (go_at_call 35; refine (cont_st B b w.heap.size _ _ _ _ w _ HR.out (by assumption)).mono ?_; rw [hsp]; rintro e W1 ⟨rfl, hst3⟩) | (go_at_call 36; refine (byte_st B b w.heap.size _ _ _ _ w _ (by assumption) hK ?_).mono ?_; rotate_left; rintro e W1 ⟨rfl, hst3⟩) | (go_at_call 37; refine (rune_st B b w.heap.size _ _ _ _ w _ HR.out (by assumption) hK ?_).mono ?_; rotate_left; rintro e W1 ⟨rfl, hst3⟩))
                    case roundEnd => exact FIN.out _ _ (by unfold item; rw [if_neg (by rw [HE.out]; simp), if_neg (by rw [HN.out]; simp)]) (by rw [← cells_plain]; assumption)
                    all_goals omega
            · have bz : ((pos : Int) == 0) = false := by simp; omega
              have hx := And.intro hz h32
              clear h32 hz hl
              have HE : Hid (escB l.length pos r = false) := by show escB _ _ _ = false; unfold escB; rw [show spB (r : Int) = false from hsp]; simp; omega
              clear hx
              by_cases hc1 : (r : Int) < 32
              · have c1 : decide ((r : Int) < 32) = true := by simpa using hc1
                have HN : Hid (ctlB r = true) := by show ctlB _ = true; unfold ctlB; simp; omega
                have hr7 : r < 128 := by omega
                have hand := and15 r hr7
                have i1 : r / 16 < (⟨#[48, 49, 50, 51, 52, 53, 54, 55, 56, 57, 97, 98, 99, 100, 101, 102]⟩ : ByteArray).size := by show r / 16 < 16; omega
                have i2 : r % 16 < (⟨#[48, 49, 50, 51, 52, 53, 54, 55, 56, 57, 97, 98, 99, 100, 101, 102]⟩ : ByteArray).size := by show r % 16 < 16; omega
                have HCC := hide (cells_ctl acc r hr7 i1 i2)
                go_wp2_with (first | (go_at_call 35; refine (cont_st B b w.heap.size _ _ _ _ w _ HR.out (by assumption)).mono ?_; rw [hsp]; rintro e W1 ⟨rfl, hst3⟩) | (go_at_call 36; refine (byte_st B b w.heap.size _ _ _ _ w _ (by assumption) hK ?_).mono ?_; rotate_left; rintro e W1 ⟨rfl, hst3⟩) | (go_at_call 37; refine (rune_st B b w.heap.size _ _ _ _ w _ HR.out (by assumption) hK ?_).mono ?_; rotate_left; rintro e W1 ⟨rfl, hst3⟩))
                case roundEnd => exact FIN.out _ _ (by unfold item; rw [if_neg (by rw [HE.out]; simp), if_pos HN.out]) (by rw [← HCC.out]; assumption)
                all_goals (simp; omega)
              · have c1 : decide ((r : Int) < 32) = false := by simpa using hc1
                by_cases hc2 : (r : Int) = 127
                · have c2 : ((r : Int) == 127) = true := by simpa using hc2
                  have HN : Hid (ctlB r = true) := by show ctlB _ = true; unfold ctlB; simp; omega
                  have hr7 : r < 128 := by omega
                  have hand := and15 r hr7
                  have i1 : r / 16 < (⟨#[48, 49, 50, 51, 52, 53, 54, 55, 56, 57, 97, 98, 99, 100, 101, 102]⟩ : ByteArray).size := by show r / 16 < 16; omega
                  have i2 : r % 16 < (⟨#[48, 49, 50, 51, 52, 53, 54, 55, 56, 57, 97, 98, 99, 100, 101, 102]⟩ : ByteArray).size := by show r % 16 < 16; omega
                  have HCC := hide (cells_ctl acc r hr7 i1 i2)
                  clear hc1 hc2
                  go_wp2_with (first | (go_at_call 35; refine (cont_st B b w.heap.size _ _ _ _ w _ HR.out (by assumption)).mono ?_; rw [hsp]; rintro e W1 ⟨rfl, hst3⟩) | (go_at_call 36; refine (byte_st B b w.heap.size _ _ _ _ w _ (by assumption) hK ?_).mono ?_; rotate_left; rintro e W1 ⟨rfl, hst3⟩) | (go_at_call 37; refine (rune_st B b w.heap.size _ _ _ _ w _ HR.out (by assumption) hK ?_).mono ?_; rotate_left; rintro e W1 ⟨rfl, hst3⟩))
                  case roundEnd => exact FIN.out _ _ (by unfold item; rw [if_neg (by rw [HE.out]; simp), if_pos HN.out]) (by rw [← HCC.out]; assumption)
                  all_goals (simp; omega)
                · have c2 : ((r : Int) == 127) = false := by simpa using hc2
                  have HN : Hid (ctlB r = false) := by show ctlB _ = false; unfold ctlB; simp; omega
                  clear hc1 hc2
                  go_wp2_with (first | (go_at_call 35; refine (cont_st B b w.heap.size _ _ _ _ w _ HR.out (by assumption)).mono ?_; rw [hsp]; rintro e W1 ⟨rfl, hst3⟩) | (go_at_call 36; refine (byte_st B b w.heap.size _ _ _ _ w _ (by assumption) hK ?_).mono ?_; rotate_left; rintro e W1 ⟨rfl, hst3⟩) | (go_at_call 37; refine (rune_st B b w.heap.size _ _ _ _ w _ HR.out (by assumption) hK ?_).mono ?_; rotate_left; rintro e W1 ⟨rfl, hst3⟩))
                  case roundEnd => exact FIN.out _ _ (by unfold item; rw [if_neg (by rw [HE.out]; simp), if_neg (by rw [HN.out]; simp)]) (by rw [← cells_plain]; assumption)
                  all_goals omega
          · have bl : ((pos : Int) == (l.length : Int) - 1) = false := by simp; omega
            by_cases hz : pos = 0
            · have bz : ((pos : Int) == 0) = true := by simp; omega
              by_cases h35 : (r : Int) = 35
              · have b35 : ((r : Int) == 35) = true := by simpa using h35
                have hx := And.intro h35 hz
                clear h32 hz hl h35
                have HE : Hid (escB l.length pos r = true) := by show escB _ _ _ = true; unfold escB; simp; omega
                clear hx
                go_wp2_with (first | (go_at_call 35; refine (cont_st B b w.heap.size _ _ _ _ w _ HR.out (by assumption)).mono ?_; rw [hsp]; rintro e W1 ⟨rfl, hst3⟩) | (go_at_call 36; refine (byte_st B b w.heap.size _ _ _ _ w _ (by assumption) hK ?_).mono ?_; rotate_left; rintro e W1 ⟨rfl, hst3⟩) | (go_at_call 37; refine (rune_st B b w.heap.size _ _ _ _ w _ HR.out (by assumption) hK ?_).mono ?_; rotate_left; rintro e W1 ⟨rfl, hst3⟩))
                case roundEnd => exact FIN.out _ _ (by unfold item; rw [if_pos HE.out]) (by rw [← cells_esc]; assumption)
                all_goals (simp; omega)
              · have b35 : ((r : Int) == 35) = false := by simpa using h35
                have hx := And.intro h35 h32
                clear h32 hz hl h35
                have HE : Hid (escB l.length pos r = false) := by show escB _ _ _ = false; unfold escB; rw [show spB (r : Int) = false from hsp]; simp; omega
                clear hx
                by_cases hc1 : (r : Int) < 32
                · have c1 : decide ((r : Int) < 32) = true := by simpa using hc1
                  have HN : Hid (ctlB r = true) := by show ctlB _ = true; unfold ctlB; simp; omega
                  have hr7 : r < 128 := by omega
                  have hand := and15 r hr7
                  have i1 : r / 16 < (⟨#[48, 49, 50, 51, 52, 53, 54, 55, 56, 57, 97, 98, 99, 100, 101, 102]⟩ : ByteArray).size := by show r / 16 < 16; omega
                  have i2 : r % 16 < (⟨#[48, 49, 50, 51, 52, 53, 54, 55, 56, 57, 97, 98, 99, 100, 101, 102]⟩ : ByteArray).size := by show r % 16 < 16; omega
                  have HCC := hide (cells_ctl acc r hr7 i1 i2)
                  go_wp2_with (first | (go_at_call 35; refine (cont_st B b w.heap.size _ _ _ _ w _ HR.out (by assumption)).mono ?_; rw [hsp]; rintro e W1 ⟨rfl, hst3⟩) | (go_at_call 36; refine (byte_st B b w.heap.size _ _ _ _ w _ (by assumption) hK ?_).mono ?_; rotate_left; rintro e W1 ⟨rfl, hst3⟩) | (go_at_call 37; refine (rune_st B b w.heap.size _ _ _ _ w _ HR.out (by assumption) hK ?_).mono ?_; rotate_left; rintro e W1 ⟨rfl, hst3⟩))
                  case roundEnd => exact FIN.out _ _ (by unfold item; rw [if_neg (by rw [HE.out]; simp), if_pos HN.out]) (by rw [← HCC.out]; assumption)
                  all_goals (simp; omega)
                · have c1 : decide ((r : Int) < 32) = false := by simpa using hc1
                  by_cases hc2 : (r : Int) = 127
                  · have c2 : ((r : Int) == 127) = true := by simpa using hc2
                    have HN : Hid (ctlB r = true) := by show ctlB _ = true; unfold ctlB; simp; omega
                    have hr7 : r < 128 := by omega
                    have hand := and15 r hr7
                    have i1 : r / 16 < (⟨#[48, 49, 50, 51, 52, 53, 54, 55, 56, 57, 97, 98, 99, 100, 101, 102]⟩ : ByteArray).size := by show r / 16 < 16; omega
                    have i2 : r % 16 < (⟨#[48, 49, 50, 51, 52, 53, 54, 55, 56, 57, 97, 98, 99, 100, 101, 102]⟩ : ByteArray).size := by show r % 16 < 16; omega
                    have HCC := hide (cells_ctl acc r hr7 i1 i2)
                    clear hc1 hc2
                    go_wp2_with (first | (go_at_call 35; refine (cont_st B b w.heap.size _ _ _ _ w _ HR.out (by assumption)).mono ?_; rw [hsp]; rintro e W1 ⟨rfl, hst3⟩) | (go_at_call 36; refine (byte_st B b w.heap.size _ _ _ _ w _ (by assumption) hK ?_).mono ?_; rotate_left; rintro e W1 ⟨rfl, hst3⟩) | (go_at_call 37; refine (rune_st B b w.heap.size _ _ _ _ w _ HR.out (by assumption) hK ?_).mono ?_; rotate_left; rintro e W1 ⟨rfl, hst3⟩))
                    case roundEnd => exact FIN.out _ _ (by unfold item; rw [if_neg (by rw [HE.out]; simp), if_pos HN.out]) (by rw [← HCC.out]; assumption)
                    all_goals (simp; omega)
                  · have c2 : ((r : Int) == 127) = false := by simpa using hc2
                    have HN : Hid (ctlB r = false) := by show ctlB _ = false; unfold ctlB; simp; omega
                    clear hc1 hc2
                    go_wp2_with (first | (go_at_call 35; refine (cont_st B b w.heap.size _ _ _ _ w _ HR.out (by assumption)).mono ?_; rw [hsp]; rintro e W1 ⟨rfl, hst3⟩) | (go_at_call 36; refine (byte_st B b w.heap.size _ _ _ _ w _ (by assumption) hK ?_).mono ?_; rotate_left; rintro e W1 ⟨rfl, hst3⟩) | (go_at_call 37; refine (rune_st B b w.heap.size _ _ _ _ w _ HR.out (by assumption) hK ?_).mono ?_; rotate_left; rintro e W1 ⟨rfl, hst3⟩))
                    case roundEnd => exact FIN.out _ _ (by unfold item; rw [if_neg (by rw [HE.out]; simp), if_neg (by rw [HN.out]; simp)]) (by rw [← cells_plain]; assumption)
                    all_goals omega
            · have bz : ((pos : Int) == 0) = false := by simp; omega
              have hx := And.intro hz h32
              clear h32 hz hl
              have HE : Hid (escB l.length pos r = false) := by show escB _ _ _ = false; unfold escB; rw [show spB (r : Int) = false from hsp]; simp; omega
              clear hx
              by_cases hc1 : (r : Int) < 32
              · have c1 : decide ((r : Int) < 32) = true := by simpa using hc1
                have HN : Hid (ctlB r = true) := by show ctlB _ = true; unfold ctlB; simp; omega
                have hr7 : r < 128 := by omega
                have hand := and15 r hr7
                have i1 : r / 16 < (⟨#[48, 49, 50, 51, 52, 53, 54, 55, 56, 57, 97, 98, 99, 100, 101, 102]⟩ : ByteArray).size := by show r / 16 < 16; omega
                have i2 : r % 16 < (⟨#[48, 49, 50, 51, 52, 53, 54, 55, 56, 57, 97, 98, 99, 100, 101, 102]⟩ : ByteArray).size := by show r % 16 < 16; omega
                have HCC := hide (cells_ctl acc r hr7 i1 i2)
                go_wp2_with (first | (go_at_call 35; refine (cont_st B b w.heap.size _ _ _ _ w _ HR.out (by assumption)).mono ?_; rw [hsp]; rintro e W1 ⟨rfl, hst3⟩) | (go_at_call 36; refine (byte_st B b w.heap.size _ _ _ _ w _ (by assumption) hK ?_).mono ?_; rotate_left; rintro e W1 ⟨rfl, hst3⟩) | (go_at_call 37; refine (rune_st B b w.heap.size _ _ _ _ w _ HR.out (by assumption) hK ?_).mono ?_; rotate_left; rintro e W1 ⟨rfl, hst3⟩))
                case roundEnd => exact FIN.out _ _ (by unfold item; rw [if_neg (by rw [HE.out]; simp), if_pos HN.out]) (by rw [← HCC.out]; assumption)
                all_goals (simp; omega)
              · have c1 : decide ((r : Int) < 32) = false := by simpa using hc1
                by_cases hc2 : (r : Int) = 127
                · have c2 : ((r : Int) == 127) = true := by simpa using hc2
                  have HN : Hid (ctlB r = true) := by show ctlB _ = true; unfold ctlB; simp; omega
                  have hr7 : r < 128 := by omega
                  have hand := and15 r hr7
                  have i1 : r / 16 < (⟨#[48, 49, 50, 51, 52, 53, 54, 55, 56, 57, 97, 98, 99, 100, 101, 102]⟩ : ByteArray).size := by show r / 16 < 16; omega
                  have i2 : r % 16 < (⟨#[48, 49, 50, 51, 52, 53, 54, 55, 56, 57, 97, 98, 99, 100, 101, 102]⟩ : ByteArray).size := by show r % 16 < 16; omega
                  have HCC := hide (cells_ctl acc r hr7 i1 i2)
                  clear hc1 hc2
                  go_wp2_with (first | (go_at_call 35; refine (cont_st B b w.heap.size _ _ _ _ w _ HR.out (by assumption)).mono ?_; rw [hsp]; rintro e W1 ⟨rfl, hst3⟩) | (go_at_call 36; refine (byte_st B b w.heap.size _ _ _ _ w _ (by assumption) hK ?_).mono ?_; rotate_left; rintro e W1 ⟨rfl, hst3⟩) | (go_at_call 37; refine (rune_st B b w.heap.size _ _ _ _ w _ HR.out (by assumption) hK ?_).mono ?_; rotate_left; rintro e W1 ⟨rfl, hst3⟩))
                  case roundEnd => exact FIN.out _ _ (by unfold item; rw [if_neg (by rw [HE.out]; simp), if_pos HN.out]) (by rw [← HCC.out]; assumption)
                  all_goals (simp; omega)
                · have c2 : ((r : Int) == 127) = false := by simpa using hc2
                  have HN : Hid (ctlB r = false) := by show ctlB _ = false; unfold ctlB; simp; omega
                  clear hc1 hc2
                  go_wp2_with (first | (go_at_call 35; refine (cont_st B b w.heap.size _ _ _ _ w _ HR.out (by assumption)).mono ?_; rw [hsp]; rintro e W1 ⟨rfl, hst3⟩) | (go_at_call 36; refine (byte_st B b w.heap.size _ _ _ _ w _ (by assumption) hK ?_).mono ?_; rotate_left; rintro e W1 ⟨rfl, hst3⟩) | (go_at_call 37; refine (rune_st B b w.heap.size _ _ _ _ w _ HR.out (by assumption) hK ?_).mono ?_; rotate_left; rintro e W1 ⟨rfl, hst3⟩))
                  case roundEnd => exact FIN.out _ _ (by unfold item; rw [if_neg (by rw [HE.out]; simp), if_neg (by rw [HN.out]; simp)]) (by rw [← cells_plain]; assumption)
                  all_goals omega
      · have HE : Hid (escB l.length pos r = true) := by show escB _ _ _ = true; unfold escB; rw [show spB (r : Int) = true from hsp]; rfl
        go_wp2_with (first | (go_at_call 35; refine (cont_st B b w.heap.size _ _ _ _ w _ HR.out (by assumption)).mono ?_; rw [hsp]; rintro e W1 ⟨rfl, hst3⟩) | (go_at_call 36; refine (byte_st B b w.heap.size _ _ _ _ w _ (by assumption) hK ?_).mono ?_; rotate_left; rintro e W1 ⟨rfl, hst3⟩) | (go_at_call 37; refine (rune_st B b w.heap.size _ _ _ _ w _ HR.out (by assumption) hK ?_).mono ?_; rotate_left; rintro e W1 ⟨rfl, hst3⟩))
        case roundEnd => exact FIN.out _ _ (by unfold item; rw [if_pos HE.out]) (by rw [← cells_esc]; assumption)
        all_goals (simp; omega)
    · have hsz : ¬ pos < (⟨l.toArray⟩ : ByteArray).size := by rw [size_mk]; exact hp
      have hnx : ∀ ty, (Instr.next (.pointer (some ⟨w.heap.size, 0, none⟩)) true ty).run Try.prog wr = _ := fun ty => Lib.run_next_end_at wr w.heap.size ⟨l.toArray⟩ pos ty hst.2.1 hsz
      clear hsz
      have hfin : acc = esc l := by
        have h := HA.out
        rw [List.drop_eq_nil_of_le (by omega)] at h
        have e : escR l.length f pos [] = [] := by cases f <;> rfl
        rw [e, List.append_nil] at h
        exact h
      rw [hfin] at hst
      go_wp2
      go_end0
      exact ⟨rfl, hst.1, hbel⟩
end Go.Proofs.Qxb6601896a
