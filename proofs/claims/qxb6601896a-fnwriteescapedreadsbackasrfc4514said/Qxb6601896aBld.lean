/- strings.Builder's writing methods, as this program's text has them. -/
import Derived.Test.Qxb6601896aShelf
import Derived.WalkKit
import Derived.WalkSpells
namespace Go.Proofs.Qxb6601896a
open Go.RowKit
set_option linter.unusedVariables false

theorem Try.info5 : (Try.prog.info? 5).map (fun i => (i.zero, i.size, i.bytes)) = some (some (.int .u8 0), 1, 1) := by kernel_rfl
theorem Try.size41 : (Try.prog.info? 41).map (·.size) = some 2 := by kernel_rfl
theorem Try.lies41 : liesAt Try.prog Try.prog.depth 41 (2 / Try.prog.cellsOf 41) 0 41 1 = true := by kernel_rfl

theorem pure_bind_sem {α β : Type} (x : α) (f : α → Sem β) : (pure x : Sem α).bind f = f x := rfl

/-- The builder's address, seen without its type: the address as it is. -/
theorem conv_out (b : Nat) (w : World) {j : TypeInfo} (ht : Try.prog.info? 41 = some j) (hj : j.size ≠ 0) (hsh : w.shape? b = some (41, 2)) :
    (convert 39 56 (.pointer (some ⟨b, 0, none⟩))).run Try.prog w = .ok (.pointer (some ⟨b, 0, none⟩)) w := by
  simp [convert, run_underlying Try.underlying39, run_underlying Try.underlying56]
  conv => lhs; arg 2; whnf
  simp [Sem.run, Sem.bind, pure_bind_sem, run_underlying Try.underlying56, Try.underlying39, Conv.seenAt, viewAt, cellsIn, hsh, sizeOf, typeInfo, ht, hj]

/-- .. and back. -/
theorem conv_in (b : Nat) (w : World) {j : TypeInfo} (ht : Try.prog.info? 41 = some j) (hsh : w.shape? b = some (41, 2)) :
    (convert 56 39 (.pointer (some ⟨b, 0, none⟩))).run Try.prog w = .ok (.pointer (some ⟨b, 0, none⟩)) w := by
  simp [convert, run_underlying Try.underlying39, run_underlying Try.underlying56]
  conv => lhs; arg 2; whnf
  simp [Sem.run, Sem.bind, pure_bind_sem, run_underlying Try.underlying39, Try.underlying56, Conv.seenAt, viewAt, hsh, variablesAt, Try.lies41, sizeOf, typeInfo, ht]

set_option maxHeartbeats 1000000 in
set_option maxRecDepth 100000 in
theorem copy_used (b : Nat) (w : World) (h0 : w.cell? ⟨b, 0, none⟩ = some (.pointer (some ⟨b, 0, none⟩))) :
    Calls Try.prog 34 #[.pointer (some ⟨b, 0, none⟩)] w fun e w' => e = .returned (.tuple #[]) ∧ w' = w := by
  obtain ⟨j, hj, _⟩ := Option.map_eq_some_iff.1 Try.size41
  go_enter Try.func34, Try.ntmps34
  go_wp2
  rw [Lib.run_neq_ptr_same w _ Try.underlying39 hj]
  go_wp2
  go_end0
  exact ⟨rfl, rfl⟩

set_option maxHeartbeats 1000000 in
set_option maxRecDepth 100000 in
theorem copy_fresh (b : Nat) (w : World) (h0 : w.cell? ⟨b, 0, none⟩ = some (.pointer none)) (hsh : w.shape? b = some (41, 2)) (hfz : w.frozen? ⟨b, 0, none⟩ = false) :
    Calls Try.prog 34 #[.pointer (some ⟨b, 0, none⟩)] w fun e w' => e = .returned (.tuple #[]) ∧ w' = w.setCell ⟨b, 0, none⟩ (.pointer (some ⟨b, 0, none⟩)) := by
  obtain ⟨j, hj, hjs⟩ := Option.map_eq_some_iff.1 Try.size41
  go_enter Try.func34, Try.ntmps34
  go_wp2
  rw [conv_out b w hj (by rw [hjs]; decide) hsh]
  simp only [Result.andThen]
  rw [Oper.upon_value]
  go_wp2
  rw [run_callFunc_extern Try.func39 (by kernel_rfl) (by kernel_rfl) (by kernel_rfl) (e := Extern.AbiNoEscape.same) (by kernel_rfl)]
  rw [Lib.run_noEscape]
  simp only [Result.andThen]
  rw [Oper.upon_value]
  go_wp2
  rw [conv_in b w hj hsh]
  simp only [Result.andThen]
  rw [Oper.upon_value]
  go_wp2
  go_end0
  exact ⟨rfl, rfl⟩

/-- A builder of this program: its bytes are bs; what lies below B is not its own. -/
def Bld (B b : Nat) (bs : List Value) (w : World) : Prop := Lib.IsBuilderF 41 5 B b bs w
/-- A builder that has been written to. -/
def BldU (B b : Nat) (bs : List Value) (w : World) : Prop := Lib.BuilderAtF 41 5 B b (.pointer (some ⟨b, 0, none⟩)) bs w
theorem BldU.bld {B b : Nat} {bs : List Value} {w : World} (h : BldU B b bs w) : Bld B b bs w := Or.inr h
/-- What a writing call leaves alone. -/
def Kept (B b : Nat) (w w' : World) : Prop := Below B w w' ∧ Lib.OthersKept 5 (some b) w w'

theorem copy_any (B b : Nat) (bs : List Value) (w : World) (h : Bld B b bs w) :
    Calls Try.prog 34 #[.pointer (some ⟨b, 0, none⟩)] w fun e w' => e = .returned (.tuple #[]) ∧ BldU B b bs w' ∧ Kept B b w w' := by
  rcases h with h | h
  · refine (copy_fresh b w h.cell0 h.shape h.frozen0).mono ?_
    rintro e w' ⟨rfl, rfl⟩
    exact ⟨rfl, h.used _, (Below.refl B w).setCell (p := ⟨b, 0, none⟩) h.1 _, (Lib.OthersKept.refl _ _ w).setCell ⟨b, 0, none⟩ rfl _⟩
  · refine (copy_used b w h.cell0).mono ?_
    rintro e w' ⟨rfl, rfl⟩
    exact ⟨rfl, h, Below.refl B _, Lib.OthersKept.refl _ _ _⟩

end Go.Proofs.Qxb6601896a
