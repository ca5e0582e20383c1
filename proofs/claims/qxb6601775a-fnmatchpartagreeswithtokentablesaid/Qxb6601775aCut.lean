/- strings.IndexByte and strings.CutSuffix at ":", as matchBracket calls them. -/
import Derived.Test.Qxb6601775aProg
import Derived.WalkKit
import Derived.WalkSpells
import Derived.Below
import Derived.Lib.Bytealg
import Derived.Lib.IndexLaws
namespace Go.Proofs.Qxb6601775a
open Go.RowKit

set_option maxHeartbeats 1000000 in
set_option maxRecDepth 100000 in
theorem idx29 (s : ByteArray) (c : Int) (w : World) :
    Calls Try.prog 29 #[.string s, .int .u8 c] w fun e w' => e = .returned (.int .i64 (Lib.indexByte s.data.toList c.toNat.toUInt8)) ∧ w' = w := by
  go_enter Try.func29, Try.ntmps29
  go_wp2
  rw [run_callFunc_extern Try.func31 (by kernel_rfl) (by kernel_rfl) (by kernel_rfl) (e := Extern.BytealgIndexByte.indexByte) (by kernel_rfl), Lib.run_indexByteString]
  simp only [Result.andThen]
  rw [Oper.upon_value]
  go_wp2
  go_ret
  exact ⟨rfl, rfl⟩

theorem idx26 (s : ByteArray) (c : Int) (w : World) :
    Calls Try.prog 26 #[.string s, .int .u8 c] w fun e w' => e = .returned (.int .i64 (Lib.indexByte s.data.toList c.toNat.toUInt8)) ∧ w' = w := by
  go_enter Try.func26, Try.ntmps26
  go_wp2_with (go_at_call 29; refine (idx29 _ _ _).mono ?_; rintro e w' ⟨rfl, rfl⟩)
  go_ret
  exact ⟨rfl, rfl⟩

/-- x ends in a colon. -/
def hasColon (x : ByteArray) : Bool := decide (1 ≤ x.size) && ((x.extract (x.size - 1) x.size).toList == [58])
/-- x without the colon at its end. -/
def cutName (x : ByteArray) : ByteArray := if hasColon x = true then x.extract 0 (x.size - 1) else x

set_option maxHeartbeats 1000000 in
theorem cut27 (x : ByteArray) (w : World) (hx : x.size ≤ 1048576) :
    Calls Try.prog 27 #[.string x, .string ⟨#[58]⟩] w fun e w' => e = .returned (.tuple #[.string (cutName x), .bool (hasColon x)]) ∧ w' = w := by
  by_cases h1 : 1 ≤ x.size
  · cases h2 : ((x.extract (x.size - 1) x.size).toList == [58])
    · have e1 : hasColon x = false := by unfold hasColon; rw [h2]; simp
      have e2 : cutName x = x := by unfold cutName; rw [e1]; rfl
      rw [e1, e2]
      clear e1 e2
      go_enter Try.func27, Try.ntmps27
      go_wp2
      go_ret2
      exact ⟨rfl, rfl⟩
    · have e1 : hasColon x = true := by unfold hasColon; rw [h2]; simpa using h1
      have e2 : cutName x = x.extract 0 (x.size - 1) := by unfold cutName; rw [e1]; rfl
      rw [e1, e2]
      clear e1 e2
      go_enter Try.func27, Try.ntmps27
      go_wp2
      go_ret2
      exact ⟨rfl, rfl⟩
  · have e1 : hasColon x = false := by unfold hasColon; simp; omega
    have e2 : cutName x = x := by unfold cutName; rw [e1]; rfl
    rw [e1, e2]
    clear e1 e2
    go_enter Try.func27, Try.ntmps27
    go_wp2
    go_ret2
    exact ⟨rfl, rfl⟩
end Go.Proofs.Qxb6601775a
