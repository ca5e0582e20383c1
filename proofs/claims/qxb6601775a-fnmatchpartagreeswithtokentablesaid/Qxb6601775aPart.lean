/- The walk of matchPart, over whatever contract of matchByte. -/
import Derived.Test.Qxb6601775aProg
import Derived.Test.Qxb6601775aGlob
import Derived.WalkKit
import Derived.WalkSpells
import Derived.Below
import Derived.Deep.QuietTactic
import Derived.BigQuiet
namespace Go.Proofs.Qxb6601775a
open Go.RowKit Glob

/-- The byte of s at i, as a number (0 beyond the end). -/
def byteAt (s : ByteArray) (i : Nat) : Int := ((s.data.toList[i]?.getD 0).toNat : Int)

theorem byteAt_eq (s : ByteArray) (i : Nat) (h : i < s.size) : ((s[i]'h).toNat : Int) = byteAt s i := by
  unfold byteAt
  have : s.data.toList[i]? = some (s[i]'h) := by
    rw [List.getElem?_eq_getElem (by simpa using h)]; rfl
  rw [this]; rfl

theorem byteAt_range (s : ByteArray) (i : Nat) : 0 ≤ byteAt s i ∧ byteAt s i ≤ 255 := by
  unfold byteAt
  have := (s.data.toList[i]?.getD 0).toNat_lt
  omega

def thePat (s t : ByteArray) (tok : Nat → Option (Nat × (Int → Bool))) : Pat :=
  { n := s.size, m := t.size, star := fun i => byteAt s i == 42, tok := tok, txt := byteAt t }

/-- What matchByte hands back for the token that stands there. -/
def ans (o : Option (Nat × (Int → Bool))) (c : Int) : Value :=
  match o with
  | none => .tuple #[.int .i64 0, .bool false, .bool false]
  | some (q, g) => .tuple #[.int .i64 q, .bool (g c), .bool true]

/-- matchByte's contract over s. -/
def ByteOk (s : ByteArray) (tok : Nat → Option (Nat × (Int → Bool))) : Prop :=
  ∀ (p : Nat) (c : Int) (w : World), p < s.size → byteAt s p ≠ 42 → 0 ≤ c → c ≤ 255 →
    Calls Try.prog 28 #[.string s, .int .i64 p, .int .u8 c] w fun e w' => (∃ n, w' = w.drewN n) ∧ e = .returned (ans (tok p) c)

/-- What matchPart leaves: an answer that says whether the pattern takes the text; some draws. -/
def PartPost (P : Pat) (w : World) (e : Ending) (w' : World) : Prop := ∃ b n, e = .returned (.bool b) ∧ (b = true ↔ RR P 0 0) ∧ w' = w.drewN n

theorem hide {p : Prop} (h : p) : Hid p := h

set_option maxHeartbeats 1000000 in
theorem part_any (s t : ByteArray) (tok : Nat → Option (Nat × (Int → Bool))) (w : World) (hs : s.size ≤ 1048576) (ht : t.size ≤ 1048576)
    (hB : ByteOk s tok) (hN : ∀ p q g, p < s.size → tok p = some (q, g) → p < q ∧ q ≤ s.size) :
    Calls Try.prog 24 #[.string s, .string t] w fun e w' => PartPost (thePat s t tok) w e w' := by
  go_enter Try.func24, Try.ntmps24
  go_wp2
  go_loopw [5, 6, 7, 8] (fun vp vt vs vr wr => ∃ (p x r n : Nat) (st : Int), vp = .int .i64 p ∧ vt = .int .i64 x ∧ vs = .int .i64 st ∧ vr = .int .i64 r ∧
      p ≤ s.size ∧ x ≤ t.size ∧ r ≤ x ∧ -1 ≤ st ∧ st ≤ p ∧ Inv (thePat s t tok) st r x p ∧ wr = w.drewN n)
    (fun _ vt vs vr _ => mu s.size t.size (intOf vs) (intOf vr).toNat (intOf vt).toNat)
  case atStart => exact ⟨0, 0, 0, 0, -1, rfl, rfl, rfl, rfl, Nat.zero_le _, Nat.zero_le _, Nat.le_refl _, by omega, by omega, inv_start _, rfl⟩
  case round =>
    obtain ⟨p, x, r, n, st, rfl, rfl, rfl, rfl, hp, hx, hr, hst, hsp, hI, rfl⟩ := hrel
    have HI := hide hI
    clear hI
    by_cases hxt : x < t.size
    · by_cases hps : p < s.size
      · by_cases hstar : byteAt s p = 42
        · have HS := hide hstar
          have hb : (((s[p]'hps).toNat : Int) == 42) = true := by rw [byteAt_eq]; simp [hstar]
          clear hstar
          go_wp2
          go_loop [5] (fun vj => ∃ j : Nat, vj = .int .i64 j ∧ p ≤ j ∧ j ≤ s.size ∧ Hid (∀ i, p ≤ i → i < j → byteAt s i = 42)) (fun vj => s.size - (intOf vj).toNat)
          case atStart => exact ⟨p, rfl, Nat.le_refl _, hp, fun i h1 h2 => by omega⟩
          case round =>
            obtain ⟨j, rfl, hpj, hjs, hall⟩ := hrel
            by_cases hjl : j < s.size
            · by_cases hsj : byteAt s j = 42
              · have HSJ := hide hsj
                have hbj : (((s[j]'hjl).toNat : Int) == 42) = true := by rw [byteAt_eq]; simp [hsj]
                clear hsj
                go_wp2
                go_round
                case rel => exact ⟨j + 1, by go_num, by omega, by omega, fun i h1 h2 => by
                  by_cases e : i = j
                  · subst e; exact HSJ.out
                  · exact hall.out i h1 (by omega)⟩
                case measure => simp [intOf]; omega
              · have hbj : (((s[j]'hjl).toNat : Int) == 42) = false := by rw [byteAt_eq]; simp [hsj]
                have hne : p < j := by
                  rcases Nat.lt_or_ge p j with h | h
                  · exact h
                  · exact absurd HS.out (by rw [show p = j by omega]; exact hsj)
                obtain ⟨d, hd⟩ : ∃ d, j = p + d + 1 := ⟨j - p - 1, by omega⟩
                have hI2 := hide (inv_star (thePat s t tok) HI.out d (fun i h1 h2 => ⟨by show i < s.size; omega, by show (byteAt s i == 42) = true; rw [hall.out i h1 (by omega)]; rfl⟩))
                rw [← hd] at hI2
                clear hsj hd
                go_wp2
                go_roundw
                case rel => exact ⟨j, x, x, n, j, rfl, rfl, rfl, rfl, hjs, hx, Nat.le_refl _, by omega, by omega, hI2.out, rfl⟩
                case measure => simp only [intOf]; exact mu_star hst (by omega) (by omega)
            · have hne : p < j := by omega
              obtain ⟨d, hd⟩ : ∃ d, j = p + d + 1 := ⟨j - p - 1, by omega⟩
              have hI2 := hide (inv_star (thePat s t tok) HI.out d (fun i h1 h2 => ⟨by show i < s.size; omega, by show (byteAt s i == 42) = true; rw [hall.out i h1 (by omega)]; rfl⟩))
              rw [← hd] at hI2
              clear hd
              go_wp2
              go_roundw
              case rel => exact ⟨j, x, x, n, j, rfl, rfl, rfl, rfl, hjs, hx, Nat.le_refl _, by omega, by omega, hI2.out, rfl⟩
              case measure => simp only [intOf]; exact mu_star hst (by omega) (by omega)
        · have hb : (((s[p]'hps).toNat : Int) == 42) = false := by rw [byteAt_eq]; simp [hstar]
          have hns : (thePat s t tok).star p = false := by show (byteAt s p == 42) = false; simpa using hstar
          have HNS := hide hns
          clear hns
          have HC := hide (fun W => hB p (byteAt t x) W hps hstar (byteAt_range t x).1 (byteAt_range t x).2)
          rw [← byteAt_eq t x hxt] at HC
          clear hstar
          cases htok : tok p with
          | none =>
            rw [htok] at HC
            simp only [ans] at HC
            have HF := hide (inv_broken _ HI.out hps HNS.out htok)
            clear htok
            go_wp2_with (go_at_call 28; refine (HC.out _).mono ?_; rintro e w' ⟨⟨n', rfl⟩, rfl⟩)
            go_ret
            exact ⟨false, _, rfl, by simp [HF.out], rfl⟩
          | some qg =>
            obtain ⟨q, g⟩ := qg
            rw [htok] at HC
            simp only [ans] at HC
            obtain ⟨hpq, hqs⟩ := hN p q g hps htok
            have HTOK := hide htok
            clear htok
            cases hg : g ((t[x]'hxt).toNat : Int) with
            | true =>
              rw [hg] at HC
              have hI2 := hide (inv_hit _ HI.out hps HNS.out HTOK.out hxt (by show g (byteAt t x) = true; rw [← byteAt_eq t x hxt]; exact hg))
              clear hg
              go_wp2_with (go_at_call 28; refine (HC.out _).mono ?_; rintro e w' ⟨⟨n', rfl⟩, rfl⟩)
              go_roundw
              case rel => exact ⟨q, x + 1, r, _, st, rfl, by go_num, rfl, rfl, hqs, by omega, by omega, hst, by omega, hI2.out, rfl⟩
              case measure =>
                simp only [intOf]
                exact mu_hit hxt
            | false =>
              rw [hg] at HC
              have hm := hide (miss_tok (thePat s t tok) (t := x) hps HNS.out HTOK.out (by show g (byteAt t x) = false; rw [← byteAt_eq t x hxt]; exact hg))
              clear hg
              by_cases hs0 : st < 0
              · have HF := hide (inv_lost _ HI.out hm.out hs0)
                go_wp2_with (go_at_call 28; refine (HC.out _).mono ?_; rintro e w' ⟨⟨n', rfl⟩, rfl⟩)
                go_ret
                exact ⟨false, _, rfl, by simp [HF.out], rfl⟩
              · have hI2 := hide (inv_back _ HI.out hm.out (by omega))
                go_wp2_with (go_at_call 28; refine (HC.out _).mono ?_; rintro e w' ⟨⟨n', rfl⟩, rfl⟩)
                go_roundw
                case rel => exact ⟨st.toNat, r + 1, r + 1, _, st, by go_num, by go_num, rfl, by go_num, by omega, by omega, Nat.le_refl _, hst, by omega, hI2.out, rfl⟩
                case measure => simp only [intOf]; exact mu_back (by omega)
      · have hm := hide (miss_end (thePat s t tok) (t := x) (p := p) (show p = s.size by omega) hxt)
        by_cases hs0 : st < 0
        · have HF := hide (inv_lost _ HI.out hm.out hs0)
          go_wp2
          go_ret
          exact ⟨false, _, rfl, by simp [HF.out], rfl⟩
        · have hI2 := hide (inv_back _ HI.out hm.out (by omega))
          go_wp2
          go_roundw
          case rel => exact ⟨st.toNat, r + 1, r + 1, _, st, by go_num, by go_num, rfl, by go_num, by omega, by omega, Nat.le_refl _, hst, by omega, hI2.out, rfl⟩
          case measure => simp only [intOf]; exact mu_back (by omega)
    · have hxe : x = t.size := by omega
      have HI2 : Hid (Inv (thePat s t tok) st r (thePat s t tok).m p) := by rw [hxe] at HI; exact HI
      clear hxe HI
      go_wp2
      go_loop [5] (fun vj => ∃ j : Nat, vj = .int .i64 j ∧ p ≤ j ∧ j ≤ s.size ∧ Hid (∀ i, p ≤ i → i < j → byteAt s i = 42)) (fun vj => s.size - (intOf vj).toNat)
      case atStart => exact ⟨p, rfl, Nat.le_refl _, hp, fun i h1 h2 => by omega⟩
      case round =>
        obtain ⟨j, rfl, hpj, hjs, hall⟩ := hrel
        by_cases hjl : j < s.size
        · by_cases hsj : byteAt s j = 42
          · have HSJ := hide hsj
            have hbj : (((s[j]'hjl).toNat : Int) == 42) = true := by rw [byteAt_eq]; simp [hsj]
            clear hsj
            go_wp2
            go_round
            case rel => exact ⟨j + 1, by go_num, by omega, by omega, fun i h1 h2 => by
              by_cases e : i = j
              · subst e; exact HSJ.out
              · exact hall.out i h1 (by omega)⟩
            case measure => simp [intOf]; omega
          · have hbj : (((s[j]'hjl).toNat : Int) == 42) = false := by rw [byteAt_eq]; simp [hsj]
            have HF := hide (inv_end _ HI2.out j hpj hjs (fun i h1 h2 => by show (byteAt s i == 42) = true; rw [hall.out i h1 h2]; rfl) (fun _ => by show (byteAt s j == 42) = false; simpa using hsj))
            have hne : ((j : Int) == (s.size : Int)) = false := by simp; omega
            clear hsj
            go_wp2
            go_ret
            exact ⟨false, _, rfl, by rw [HF.out]; show false = true ↔ j = s.size; simp; omega, rfl⟩
        · have HF := hide (inv_end _ HI2.out j hpj hjs (fun i h1 h2 => by show (byteAt s i == 42) = true; rw [hall.out i h1 h2]; rfl) (fun h => absurd h hjl))
          have hne : ((j : Int) == (s.size : Int)) = true := by simp; omega
          go_wp2
          go_ret
          exact ⟨true, _, rfl, by rw [HF.out]; show true = true ↔ j = s.size; simp; omega, rfl⟩
end Go.Proofs.Qxb6601775a
