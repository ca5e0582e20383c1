/- The walk of zpTable, over whatever contract of matchByte. -/
import Derived.Test.Qxb6601775aPart
import Derived.Deep.OwnRows
import Derived.RowKit3
import Derived.ProofKit
namespace Go.Proofs.Qxb6601775a
open Go.RowKit Glob
set_option linter.unusedVariables false

theorem zzbyte_any (s : ByteArray) (tok : Nat → Option (Nat × (Int → Bool))) (hB : ByteOk s tok) (p : Nat) (c : Int) (w : World) (hp : p < s.size) (hs : byteAt s p ≠ 42) (h0 : 0 ≤ c) (h255 : c ≤ 255) :
    Calls Try.prog 25 #[.string s, .int .i64 p, .int .u8 c] w fun e w' => (∃ n, w' = w.drewN n) ∧ e = .returned (ans (tok p) c) := by
  have HC := hide (fun W => hB p c W hp hs h0 h255)
  clear hB hs
  cases htok : tok p with
  | none =>
    rw [htok] at HC
    simp only [ans] at HC ⊢
    clear htok
    go_enter Try.func25, Try.ntmps25
    go_wp2_with (go_at_call 28; refine (HC.out _).mono ?_; rintro e w' ⟨⟨n', rfl⟩, rfl⟩)
    go_ret3
    exact ⟨⟨_, rfl⟩, rfl⟩
  | some qg =>
    obtain ⟨q, g⟩ := qg
    rw [htok] at HC
    simp only [ans] at HC ⊢
    clear htok
    go_enter Try.func25, Try.ntmps25
    go_wp2_with (go_at_call 28; refine (HC.out _).mono ?_; rintro e w' ⟨⟨n', rfl⟩, rfl⟩)
    go_ret3
    exact ⟨⟨_, rfl⟩, rfl⟩

theorem Try.info4 : (Try.prog.info? 4).map (fun i => (i.zero, i.size, i.bytes)) = some (some (.bool false), 1, 1) := by kernel_rfl

/-- What the table leaves: an answer that says whether the pattern takes the text; new memory and draws alone. -/
def TabPost (P : Pat) (w : World) (e : Ending) (w' : World) : Prop := ∃ b, e = .returned (.bool b) ∧ (b = true ↔ RR P 0 0) ∧ Grown w w'

theorem made0 (n : Nat) : (madeCells #[Value.bool false] (n + 1))[0]? = some (.bool false) := by simp [madeCells]

theorem start_rows (w : World) (n : Nat) :
    ((w.alloc (.cells ((madeCells #[Value.bool false] (n + 1)).setIfInBounds 0 (.bool true)) 4)).alloc (.cells (madeCells #[Value.bool false] (n + 1)) 4)).rowIs w.heap.size 4 (n + 1) (fun k => .bool (k == 0)) ∧
    ((w.alloc (.cells ((madeCells #[Value.bool false] (n + 1)).setIfInBounds 0 (.bool true)) 4)).alloc (.cells (madeCells #[Value.bool false] (n + 1)) 4)).rowIs (w.heap.size + 1) 4 (n + 1) (fun _ => .bool false) := by
  constructor
  · refine World.rowIs.alloc ?_ _
    have h := World.rowIs_alloc w ((madeCells #[Value.bool false] (n + 1)).setIfInBounds 0 (.bool true)) 4 (fun k => .bool (k == 0)) (fun i hi => by
      rw [Array.getElem?_setIfInBounds]
      simp only [Array.size_setIfInBounds, size_madeCells] at hi
      by_cases e : 0 = i
      · subst e; simp [size_madeCells]
      · rw [if_neg e, show (i == 0) = false by simp; omega]; simp [madeCells, hi, Nat.mod_one])
    simpa only [Array.size_setIfInBounds, size_madeCells] using h
  · have h := World.rowIs_made (w.alloc (.cells ((madeCells #[Value.bool false] (n + 1)).setIfInBounds 0 (.bool true)) 4)) (.bool false) (n + 1) 4
    simpa using h

def upd (f : Nat → Bool) (k : Nat) (v : Bool) : Nat → Bool := fun j => if j = k then v else f j
theorem upd_same (f : Nat → Bool) (k : Nat) (v : Bool) : upd f k v k = v := if_pos rfl
theorem upd_other (f : Nat → Bool) {k j : Nat} (v : Bool) (h : j ≠ k) : upd f k v j = f j := if_neg h

theorem row_upd {w : World} {b n : Nat} {f : Nat → Bool} (h : w.rowIs b 4 n (fun k => .bool (f k))) (k : Nat) (v : Bool) :
    (w.setCell ⟨b, k, none⟩ (.bool v)).rowIs b 4 n (fun j => .bool (upd f k v j)) :=
  (h.set k _).congr (fun i _ => by unfold upd; show (if i = k then Value.bool v else Value.bool (f i)) = Value.bool (if i = k then v else f i); split <;> rfl)

/-- One round of a star's row: 'seen' and the next row, one place further. -/
theorem star_seen {cur : Nat → Bool} {k : Nat} {sn : Bool} (h : sn = true ↔ ∃ j, j < k ∧ cur j = true) : (sn || cur k) = true ↔ ∃ j, j < k + 1 ∧ cur j = true := by
  rw [Bool.or_eq_true, h]
  constructor
  · rintro (⟨j, a, b⟩ | a)
    · exact ⟨j, by omega, b⟩
    · exact ⟨k, by omega, a⟩
  · rintro ⟨j, a, b⟩
    by_cases e : j = k
    · subst e; exact Or.inr b
    · exact Or.inl ⟨j, by omega, b⟩

theorem star_next {cur nx : Nat → Bool} {k : Nat} {sn : Bool} (h : sn = true ↔ ∃ j, j < k + 1 ∧ cur j = true) (hx : ∀ j, j < k → (nx j = true ↔ ∃ l, l ≤ j ∧ cur l = true)) :
    ∀ j, j < k + 1 → (upd nx k sn j = true ↔ ∃ l, l ≤ j ∧ cur l = true) := by
  intro j hj
  by_cases e : j = k
  · subst e
    rw [upd_same, h]
    constructor
    · rintro ⟨l, a, b⟩; exact ⟨l, by omega, b⟩
    · rintro ⟨l, a, b⟩; exact ⟨l, by omega, b⟩
  · rw [upd_other _ _ e]; exact hx j (by omega)

set_option maxHeartbeats 2000000 in
set_option maxRecDepth 100000 in
theorem table_any (s t : ByteArray) (tok : Nat → Option (Nat × (Int → Bool))) (w : World) (hs : s.size ≤ 1048576) (ht : t.size ≤ 1048576)
    (hB : ByteOk s tok) (hN : ∀ p q g, p < s.size → tok p = some (q, g) → p < q ∧ q ≤ s.size) :
    Calls Try.prog 18 #[.string s, .string t] w fun e w' => TabPost (thePat s t tok) w e w' := by
  have hmk := fun W => run_make_row' (P := Try.prog) 32 4 (.bool false) 1 Try.underlying32 Try.info4 rfl .i64 .i64 (t.size + 1) (by omega) (by omega) W
  rw [show ((t.size + 1 : Nat) : Int) = (t.size : Int) + 1 by omega] at hmk
  have hm0 := made0 t.size
  have HNX := hide hN
  clear hN
  go_enter Try.func18, Try.ntmps18
  go_wp2
  clear hmk hm0
  go_loopw [6, 7, 8] (fun vc vn vi wr => ∃ (bc bn i : Nat) (cur nx : Nat → Bool), vc = .slice (some ⟨bc, 0, none⟩) (t.size + 1) (t.size + 1) ∧ vn = .slice (some ⟨bn, 0, none⟩) (t.size + 1) (t.size + 1) ∧ vi = .int .i64 i ∧
      i ≤ s.size ∧ bc ≠ bn ∧ w.heap.size ≤ bc ∧ w.heap.size ≤ bn ∧ Hid (wr.rowIs bc 4 (t.size + 1) (fun k => .bool (cur k))) ∧ Hid (wr.rowIs bn 4 (t.size + 1) (fun k => .bool (nx k))) ∧ Hid (Grown w wr) ∧ Hid (Tab (thePat s t tok) cur i))
    (fun _ _ vi _ => s.size - (intOf vi).toNat)
  case atStart =>
    exact ⟨w.heap.size, w.heap.size + 1, 0, (· == 0), fun _ => false, rfl, rfl, rfl, Nat.zero_le _, by omega, Nat.le_refl _, by omega, (start_rows w t.size).1, (start_rows w t.size).2,
      ((Grown.refl w).alloc _ _).alloc _ _, tab_start _ rfl (fun k _ => by simp)⟩
  case round =>
    obtain ⟨bc, bn, i, cur, nx, rfl, rfl, rfl, hi, hne, hbc, hbn, RC, RN, HG, HT⟩ := hrel
    by_cases his : i < s.size
    · by_cases hst : byteAt s i = 42
      · have hb : (((s[i]'his).toNat : Int) == 42) = true := by rw [byteAt_eq, hst]; rfl
        have HS : Hid ((thePat s t tok).star i = true) := by show (byteAt s i == 42) = true; rw [hst]; rfl
        clear hst
        go_wp2
        go_loopw [9, 10] (fun vs vk wx => ∃ (k : Nat) (sn : Bool) (nx : Nat → Bool), vs = .bool sn ∧ vk = .int .i64 k ∧ k ≤ t.size + 1 ∧ Hid (sn = true ↔ ∃ j, j < k ∧ cur j = true) ∧
            Hid (wx.rowIs bc 4 (t.size + 1) (fun k => .bool (cur k))) ∧ Hid (wx.rowIs bn 4 (t.size + 1) (fun k => .bool (nx k))) ∧ Hid (Grown w wx) ∧ Hid (∀ j, j < k → (nx j = true ↔ ∃ l, l ≤ j ∧ cur l = true)))
          (fun _ vk _ => t.size + 1 - (intOf vk).toNat)
        case atStart => exact ⟨0, false, nx, rfl, rfl, Nat.zero_le _, ⟨fun h => by (cases h), fun ⟨j, h, _⟩ => by omega⟩, RC, RN, HG, fun j h => by omega⟩
        case round =>
          clear RC RN HG
          obtain ⟨k, sn, nx2, rfl, rfl, hk, HSN, RC, RN, HG, HX⟩ := hrel
          by_cases hkm : k ≤ t.size
          · have c1 := RC.out.cell (i := k) (by omega)
            have f2 := RN.out.frozen k
            have c2 := RN.out.cell (i := k) (by omega)
            have HSN2 := hide (star_seen HSN.out)
            cases hck : cur k
            · rw [hck] at c1
              have e : (sn || cur k) = sn := by rw [hck]; simp
              rw [e] at HSN2
              clear hck e
              have HX2 := hide (star_next HSN2.out HX.out)
              have RC2 := hide (RC.out.setOther (a := ⟨bn, k, none⟩) hne (.bool sn))
              have RN2 := hide (row_upd RN.out k sn)
              have HG2 := hide (HG.out.setCell (a := ⟨bn, k, none⟩) hbn (.bool sn))
              clear HSN HX RC RN HG
              go_wp2
              go_roundw
              case rel => exact ⟨k + 1, sn, _, rfl, by go_num, by omega, HSN2, RC2, RN2, HG2, HX2⟩
              case measure => simp [intOf]; omega
            · rw [hck] at c1
              have e : (sn || cur k) = true := by rw [hck]; simp
              rw [e] at HSN2
              clear hck e
              have HX2 := hide (star_next HSN2.out HX.out)
              have RC2 := hide (RC.out.setOther (a := ⟨bn, k, none⟩) hne (.bool true))
              have RN2 := hide (row_upd RN.out k true)
              have HG2 := hide (HG.out.setCell (a := ⟨bn, k, none⟩) hbn (.bool true))
              clear HSN HX RC RN HG
              go_wp2
              go_roundw
              case rel => exact ⟨k + 1, true, _, rfl, by go_num, by omega, HSN2, RC2, RN2, HG2, HX2⟩
              case measure => simp [intOf]; omega
          · have HT2 := hide (tab_star (thePat s t tok) (nxt := nx2) HT.out his HS.out (fun j (hj : j ≤ t.size) => HX.out j (by omega)))
            go_wp2
            go_roundw
            case rel => exact ⟨bn, bc, i + 1, nx2, cur, rfl, rfl, by go_num, by omega, fun h => hne h.symm, hbn, hbc, RN, RC, HG, HT2⟩
            case measure => simp [intOf]; omega
      · have hb : (((s[i]'his).toNat : Int) == 42) = false := by rw [byteAt_eq]; simpa using hst
        have HS : Hid ((thePat s t tok).star i = false) := by show (byteAt s i == 42) = false; simpa using hst
        have HC0 := hide (fun W => zzbyte_any s tok hB i 0 W his hst (by omega) (by omega))
        have HCK := hide (fun (k : Nat) W => zzbyte_any s tok hB i (byteAt t k) W his hst (byteAt_range t k).1 (byteAt_range t k).2)
        clear hst
        cases htok : tok i with
        | none =>
          rw [htok] at HC0
          simp only [ans] at HC0
          have HF := hide (tab_broken _ HT.out his HS.out htok)
          clear htok
          go_wp2_with (go_at_call 25; refine (HC0.out _).mono ?_; rintro e w' ⟨⟨n', rfl⟩, rfl⟩)
          go_ret
          exact ⟨false, rfl, by simp [HF.out], HG.out⟩
        | some qg =>
          obtain ⟨q, g⟩ := qg
          rw [htok] at HC0 HCK
          simp only [ans] at HC0 HCK
          obtain ⟨hpq, hqs⟩ := HNX.out i q g his htok
          have HTOK := hide htok
          clear htok
          have f2 := RN.out.frozen 0
          have c2 := RN.out.cell (i := 0) (by omega)
          go_wp2_with (go_at_call 25; refine (HC0.out _).mono ?_; rintro e w' ⟨⟨n', rfl⟩, rfl⟩)
          have RC1 : Hid (((wr.drewN n').setCell ⟨bn, 0, none⟩ (.bool false)).rowIs bc 4 (t.size + 1) (fun k => .bool (cur k))) := World.rowIs.setOther (w := wr.drewN n') RC.out (a := ⟨bn, 0, none⟩) hne (.bool false)
          have RN1 : Hid (((wr.drewN n').setCell ⟨bn, 0, none⟩ (.bool false)).rowIs bn 4 (t.size + 1) (fun k => .bool (upd nx 0 false k))) := row_upd (w := wr.drewN n') RN.out 0 false
          have HG1 : Hid (Grown w ((wr.drewN n').setCell ⟨bn, 0, none⟩ (.bool false))) := Grown.setCell (w' := wr.drewN n') HG.out (a := ⟨bn, 0, none⟩) hbn (.bool false)
          clear RC RN HG c2 f2
          go_loopw [14] (fun vk wx => ∃ (k : Nat) (nx : Nat → Bool), vk = .int .i64 k ∧ k ≤ t.size ∧
              Hid (wx.rowIs bc 4 (t.size + 1) (fun k => .bool (cur k))) ∧ Hid (wx.rowIs bn 4 (t.size + 1) (fun k => .bool (nx k))) ∧ Hid (Grown w wx) ∧ Hid (nx 0 = false ∧ ∀ j, j < k → nx (j + 1) = (cur j && g (byteAt t j))))
            (fun vk _ => t.size - (intOf vk).toNat)
          case atStart => exact ⟨0, _, rfl, Nat.zero_le _, RC1, RN1, HG1, upd_same _ _ _, fun j h => by omega⟩
          case round =>
            clear RC1 RN1 HG1
            obtain ⟨k, nx2, rfl, hk, RC, RN, HG, HX⟩ := hrel
            by_cases hkm : k < t.size
            · have HC := hide (HCK.out k)
              rw [← byteAt_eq t k hkm] at HC
              obtain ⟨gb, hgb⟩ : ∃ b, g ((t[k]'hkm).toNat : Int) = b := ⟨_, rfl⟩
              rw [hgb] at HC
              have HGB := hide hgb
              clear hgb
              have c1 := RC.out.cell (i := k) (by omega)
              have f2 := RN.out.frozen (k + 1)
              have c2 := RN.out.cell (i := k + 1) (by omega)
              have HX2 : ∀ v, v = (cur k && gb) → Hid (upd nx2 (k + 1) v 0 = false ∧ ∀ j, j < k + 1 → upd nx2 (k + 1) v (j + 1) = (cur j && g (byteAt t j))) := by
                intro v hv
                refine ⟨by rw [upd_other _ _ (by omega)]; exact HX.out.1, fun j hj => ?_⟩
                by_cases e : j = k
                · subst e; rw [upd_same, hv, ← byteAt_eq t j hkm, HGB.out]
                · rw [upd_other _ _ (by omega)]; exact HX.out.2 j (by omega)
              have HXX := hide HX2
              clear HX2
              cases hck : cur k
              · rw [hck] at c1 HXX
                clear hck
                go_wp2_with (go_at_call 25; refine (HC.out _).mono ?_; rintro e w' ⟨⟨n'', rfl⟩, rfl⟩)
                go_roundw
                case rel => exact ⟨k + 1, upd nx2 (k + 1) false, by go_num, by omega, World.rowIs.setOther (w := wr.drewN n'') RC.out (a := ⟨bn, k + 1, none⟩) hne (.bool false), row_upd (w := wr.drewN n'') RN.out (k + 1) false, Grown.setCell (w' := wr.drewN n'') HG.out (a := ⟨bn, k + 1, none⟩) hbn (.bool false), HXX.out false (by simp)⟩
                case measure => simp [intOf]; omega
              · rw [hck] at c1 HXX
                clear hck
                go_wp2_with (go_at_call 25; refine (HC.out _).mono ?_; rintro e w' ⟨⟨n'', rfl⟩, rfl⟩)
                go_roundw
                case rel => exact ⟨k + 1, upd nx2 (k + 1) gb, by go_num, by omega, World.rowIs.setOther (w := wr.drewN n'') RC.out (a := ⟨bn, k + 1, none⟩) hne (.bool gb), row_upd (w := wr.drewN n'') RN.out (k + 1) gb, Grown.setCell (w' := wr.drewN n'') HG.out (a := ⟨bn, k + 1, none⟩) hbn (.bool gb), HXX.out gb (by simp)⟩
                case measure => simp [intOf]; omega
            · have hke : k = t.size := by omega
              have HT2 := hide (tab_tok (thePat s t tok) (nxt := nx2) HT.out his HS.out HTOK.out HX.out.1 (fun j (hj : j < t.size) => HX.out.2 j (by omega)))
              clear hke
              go_wp2
              go_roundw
              case rel => exact ⟨bn, bc, q, nx2, cur, rfl, rfl, rfl, hqs, fun h => hne h.symm, hbn, hbc, RN, RC, HG, HT2⟩
              case measure => simp [intOf]; omega
    · have hie : i = s.size := by omega
      have c1 := RC.out.cell (i := t.size) (by omega)
      have HF := hide (tab_end _ HT.out hie)
      clear hie
      go_wp2
      go_ret
      exact ⟨cur t.size, rfl, HF.out.symm, HG.out⟩
end Go.Proofs.Qxb6601775a
