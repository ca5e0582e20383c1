/- isClass: which bytes a class of a bracket expression holds. -/
import Derived.Test.Qxb6601775aProg
import Derived.WalkKit
import Derived.WalkSpells
import Derived.Below
namespace Go.Proofs.Qxb6601775a
open Go.RowKit
set_option linter.unusedSimpArgs false

def lo (c : Int) : Bool := decide (97 ≤ c ∧ c ≤ 122)
def up (c : Int) : Bool := decide (65 ≤ c ∧ c ≤ 90)
def di (c : Int) : Bool := decide (48 ≤ c ∧ c ≤ 57)
def gr (c : Int) : Bool := decide (33 ≤ c ∧ c ≤ 126)

def clsOf (l : List UInt8) : Option (Int → Bool) :=
  if (l == [97, 108, 110, 117, 109]) = true then some (fun c => lo c || up c || di c)
  else if (l == [97, 108, 112, 104, 97]) = true then some (fun c => lo c || up c)
  else if (l == [98, 108, 97, 110, 107]) = true then some (fun c => decide (c = 32 ∨ c = 9))
  else if (l == [99, 110, 116, 114, 108]) = true then some (fun c => decide (c < 32 ∨ c = 127))
  else if (l == [100, 105, 103, 105, 116]) = true then some di
  else if (l == [103, 114, 97, 112, 104]) = true then some gr
  else if (l == [108, 111, 119, 101, 114]) = true then some lo
  else if (l == [112, 114, 105, 110, 116]) = true then some (fun c => gr c || decide (c = 32))
  else if (l == [112, 117, 110, 99, 116]) = true then some (fun c => gr c && !lo c && !up c && !di c)
  else if (l == [115, 112, 97, 99, 101]) = true then some (fun c => decide (c = 32 ∨ (9 ≤ c ∧ c ≤ 13)))
  else if (l == [117, 112, 112, 101, 114]) = true then some up
  else if (l == [120, 100, 105, 103, 105, 116]) = true then some (fun c => di c || decide (97 ≤ c ∧ c ≤ 102) || decide (65 ≤ c ∧ c ≤ 70))
  else none

def clsAns (o : Option (Int → Bool)) (c : Int) : Value :=
  match o with
  | none => .tuple #[.bool false, .bool false]
  | some f => .tuple #[.bool (f c), .bool true]

set_option maxHeartbeats 1000000 in
theorem cls_alnum (s : ByteArray) (c : Int) (w : World) (h0 : 0 ≤ c) (h1 : c ≤ 255)  (y : (s.toList == [97, 108, 110, 117, 109]) = true) :
    Calls Try.prog 21 #[.string s, .int .u8 c] w fun e w' => e = .returned (clsAns (clsOf s.toList) c) ∧ w' = w := by
  have e : clsOf s.toList = some (fun c => lo c || up c || di c) := by
    unfold clsOf
    rw [if_pos y]
  rw [e]
  clear e
  go_enter Try.func21, Try.ntmps21
  go_wp2
  all_goals go_ret2
  all_goals refine ⟨congrArg (fun b => Ending.returned (.tuple #[.bool b, .bool true])) ?_, rfl⟩
  all_goals (rw [Bool.eq_iff_iff]; simp [lo, up, di, gr] <;> omega)

set_option maxHeartbeats 1000000 in
theorem cls_alpha (s : ByteArray) (c : Int) (w : World) (h0 : 0 ≤ c) (h1 : c ≤ 255) (n0 : (s.toList == [97, 108, 110, 117, 109]) = false) (y : (s.toList == [97, 108, 112, 104, 97]) = true) :
    Calls Try.prog 21 #[.string s, .int .u8 c] w fun e w' => e = .returned (clsAns (clsOf s.toList) c) ∧ w' = w := by
  have e : clsOf s.toList = some (fun c => lo c || up c) := by
    unfold clsOf
    rw [if_neg (by rw [n0]; simp)]; rw [if_pos y]
  rw [e]
  clear e
  go_enter Try.func21, Try.ntmps21
  go_wp2
  all_goals go_ret2
  all_goals refine ⟨congrArg (fun b => Ending.returned (.tuple #[.bool b, .bool true])) ?_, rfl⟩
  all_goals (rw [Bool.eq_iff_iff]; simp [lo, up, di, gr] <;> omega)

set_option maxHeartbeats 1000000 in
theorem cls_blank (s : ByteArray) (c : Int) (w : World) (h0 : 0 ≤ c) (h1 : c ≤ 255) (n0 : (s.toList == [97, 108, 110, 117, 109]) = false) (n1 : (s.toList == [97, 108, 112, 104, 97]) = false) (y : (s.toList == [98, 108, 97, 110, 107]) = true) :
    Calls Try.prog 21 #[.string s, .int .u8 c] w fun e w' => e = .returned (clsAns (clsOf s.toList) c) ∧ w' = w := by
  have e : clsOf s.toList = some (fun c => decide (c = 32 ∨ c = 9)) := by
    unfold clsOf
    rw [if_neg (by rw [n0]; simp)]; rw [if_neg (by rw [n1]; simp)]; rw [if_pos y]
  rw [e]
  clear e
  go_enter Try.func21, Try.ntmps21
  go_wp2
  all_goals go_ret2
  all_goals refine ⟨congrArg (fun b => Ending.returned (.tuple #[.bool b, .bool true])) ?_, rfl⟩
  all_goals (rw [Bool.eq_iff_iff]; simp [lo, up, di, gr] <;> omega)

set_option maxHeartbeats 1000000 in
theorem cls_cntrl (s : ByteArray) (c : Int) (w : World) (h0 : 0 ≤ c) (h1 : c ≤ 255) (n0 : (s.toList == [97, 108, 110, 117, 109]) = false) (n1 : (s.toList == [97, 108, 112, 104, 97]) = false) (n2 : (s.toList == [98, 108, 97, 110, 107]) = false) (y : (s.toList == [99, 110, 116, 114, 108]) = true) :
    Calls Try.prog 21 #[.string s, .int .u8 c] w fun e w' => e = .returned (clsAns (clsOf s.toList) c) ∧ w' = w := by
  have e : clsOf s.toList = some (fun c => decide (c < 32 ∨ c = 127)) := by
    unfold clsOf
    rw [if_neg (by rw [n0]; simp)]; rw [if_neg (by rw [n1]; simp)]; rw [if_neg (by rw [n2]; simp)]; rw [if_pos y]
  rw [e]
  clear e
  go_enter Try.func21, Try.ntmps21
  go_wp2
  all_goals go_ret2
  all_goals refine ⟨congrArg (fun b => Ending.returned (.tuple #[.bool b, .bool true])) ?_, rfl⟩
  all_goals (rw [Bool.eq_iff_iff]; simp [lo, up, di, gr] <;> omega)

set_option maxHeartbeats 1000000 in
theorem cls_digit (s : ByteArray) (c : Int) (w : World) (h0 : 0 ≤ c) (h1 : c ≤ 255) (n0 : (s.toList == [97, 108, 110, 117, 109]) = false) (n1 : (s.toList == [97, 108, 112, 104, 97]) = false) (n2 : (s.toList == [98, 108, 97, 110, 107]) = false) (n3 : (s.toList == [99, 110, 116, 114, 108]) = false) (y : (s.toList == [100, 105, 103, 105, 116]) = true) :
    Calls Try.prog 21 #[.string s, .int .u8 c] w fun e w' => e = .returned (clsAns (clsOf s.toList) c) ∧ w' = w := by
  have e : clsOf s.toList = some (di) := by
    unfold clsOf
    rw [if_neg (by rw [n0]; simp)]; rw [if_neg (by rw [n1]; simp)]; rw [if_neg (by rw [n2]; simp)]; rw [if_neg (by rw [n3]; simp)]; rw [if_pos y]
  rw [e]
  clear e
  go_enter Try.func21, Try.ntmps21
  go_wp2
  all_goals go_ret2
  all_goals refine ⟨congrArg (fun b => Ending.returned (.tuple #[.bool b, .bool true])) ?_, rfl⟩
  all_goals (rw [Bool.eq_iff_iff]; simp [lo, up, di, gr] <;> omega)

set_option maxHeartbeats 1000000 in
theorem cls_graph (s : ByteArray) (c : Int) (w : World) (h0 : 0 ≤ c) (h1 : c ≤ 255) (n0 : (s.toList == [97, 108, 110, 117, 109]) = false) (n1 : (s.toList == [97, 108, 112, 104, 97]) = false) (n2 : (s.toList == [98, 108, 97, 110, 107]) = false) (n3 : (s.toList == [99, 110, 116, 114, 108]) = false) (n4 : (s.toList == [100, 105, 103, 105, 116]) = false) (y : (s.toList == [103, 114, 97, 112, 104]) = true) :
    Calls Try.prog 21 #[.string s, .int .u8 c] w fun e w' => e = .returned (clsAns (clsOf s.toList) c) ∧ w' = w := by
  have e : clsOf s.toList = some (gr) := by
    unfold clsOf
    rw [if_neg (by rw [n0]; simp)]; rw [if_neg (by rw [n1]; simp)]; rw [if_neg (by rw [n2]; simp)]; rw [if_neg (by rw [n3]; simp)]; rw [if_neg (by rw [n4]; simp)]; rw [if_pos y]
  rw [e]
  clear e
  go_enter Try.func21, Try.ntmps21
  go_wp2
  all_goals go_ret2
  all_goals refine ⟨congrArg (fun b => Ending.returned (.tuple #[.bool b, .bool true])) ?_, rfl⟩
  all_goals (rw [Bool.eq_iff_iff]; simp [lo, up, di, gr] <;> omega)

set_option maxHeartbeats 1000000 in
theorem cls_lower (s : ByteArray) (c : Int) (w : World) (h0 : 0 ≤ c) (h1 : c ≤ 255) (n0 : (s.toList == [97, 108, 110, 117, 109]) = false) (n1 : (s.toList == [97, 108, 112, 104, 97]) = false) (n2 : (s.toList == [98, 108, 97, 110, 107]) = false) (n3 : (s.toList == [99, 110, 116, 114, 108]) = false) (n4 : (s.toList == [100, 105, 103, 105, 116]) = false) (n5 : (s.toList == [103, 114, 97, 112, 104]) = false) (y : (s.toList == [108, 111, 119, 101, 114]) = true) :
    Calls Try.prog 21 #[.string s, .int .u8 c] w fun e w' => e = .returned (clsAns (clsOf s.toList) c) ∧ w' = w := by
  have e : clsOf s.toList = some (lo) := by
    unfold clsOf
    rw [if_neg (by rw [n0]; simp)]; rw [if_neg (by rw [n1]; simp)]; rw [if_neg (by rw [n2]; simp)]; rw [if_neg (by rw [n3]; simp)]; rw [if_neg (by rw [n4]; simp)]; rw [if_neg (by rw [n5]; simp)]; rw [if_pos y]
  rw [e]
  clear e
  go_enter Try.func21, Try.ntmps21
  go_wp2
  all_goals go_ret2
  all_goals refine ⟨congrArg (fun b => Ending.returned (.tuple #[.bool b, .bool true])) ?_, rfl⟩
  all_goals (rw [Bool.eq_iff_iff]; simp [lo, up, di, gr] <;> omega)

set_option maxHeartbeats 1000000 in
theorem cls_print (s : ByteArray) (c : Int) (w : World) (h0 : 0 ≤ c) (h1 : c ≤ 255) (n0 : (s.toList == [97, 108, 110, 117, 109]) = false) (n1 : (s.toList == [97, 108, 112, 104, 97]) = false) (n2 : (s.toList == [98, 108, 97, 110, 107]) = false) (n3 : (s.toList == [99, 110, 116, 114, 108]) = false) (n4 : (s.toList == [100, 105, 103, 105, 116]) = false) (n5 : (s.toList == [103, 114, 97, 112, 104]) = false) (n6 : (s.toList == [108, 111, 119, 101, 114]) = false) (y : (s.toList == [112, 114, 105, 110, 116]) = true) :
    Calls Try.prog 21 #[.string s, .int .u8 c] w fun e w' => e = .returned (clsAns (clsOf s.toList) c) ∧ w' = w := by
  have e : clsOf s.toList = some (fun c => gr c || decide (c = 32)) := by
    unfold clsOf
    rw [if_neg (by rw [n0]; simp)]; rw [if_neg (by rw [n1]; simp)]; rw [if_neg (by rw [n2]; simp)]; rw [if_neg (by rw [n3]; simp)]; rw [if_neg (by rw [n4]; simp)]; rw [if_neg (by rw [n5]; simp)]; rw [if_neg (by rw [n6]; simp)]; rw [if_pos y]
  rw [e]
  clear e
  go_enter Try.func21, Try.ntmps21
  go_wp2
  all_goals go_ret2
  all_goals refine ⟨congrArg (fun b => Ending.returned (.tuple #[.bool b, .bool true])) ?_, rfl⟩
  all_goals (rw [Bool.eq_iff_iff]; simp [lo, up, di, gr] <;> omega)

set_option maxHeartbeats 1000000 in
theorem cls_punct (s : ByteArray) (c : Int) (w : World) (h0 : 0 ≤ c) (h1 : c ≤ 255) (n0 : (s.toList == [97, 108, 110, 117, 109]) = false) (n1 : (s.toList == [97, 108, 112, 104, 97]) = false) (n2 : (s.toList == [98, 108, 97, 110, 107]) = false) (n3 : (s.toList == [99, 110, 116, 114, 108]) = false) (n4 : (s.toList == [100, 105, 103, 105, 116]) = false) (n5 : (s.toList == [103, 114, 97, 112, 104]) = false) (n6 : (s.toList == [108, 111, 119, 101, 114]) = false) (n7 : (s.toList == [112, 114, 105, 110, 116]) = false) (y : (s.toList == [112, 117, 110, 99, 116]) = true) :
    Calls Try.prog 21 #[.string s, .int .u8 c] w fun e w' => e = .returned (clsAns (clsOf s.toList) c) ∧ w' = w := by
  have e : clsOf s.toList = some (fun c => gr c && !lo c && !up c && !di c) := by
    unfold clsOf
    rw [if_neg (by rw [n0]; simp)]; rw [if_neg (by rw [n1]; simp)]; rw [if_neg (by rw [n2]; simp)]; rw [if_neg (by rw [n3]; simp)]; rw [if_neg (by rw [n4]; simp)]; rw [if_neg (by rw [n5]; simp)]; rw [if_neg (by rw [n6]; simp)]; rw [if_neg (by rw [n7]; simp)]; rw [if_pos y]
  rw [e]
  clear e
  go_enter Try.func21, Try.ntmps21
  go_wp2
  all_goals go_ret2
  all_goals refine ⟨congrArg (fun b => Ending.returned (.tuple #[.bool b, .bool true])) ?_, rfl⟩
  all_goals (rw [Bool.eq_iff_iff]; simp [lo, up, di, gr] <;> omega)

set_option maxHeartbeats 1000000 in
theorem cls_space (s : ByteArray) (c : Int) (w : World) (h0 : 0 ≤ c) (h1 : c ≤ 255) (n0 : (s.toList == [97, 108, 110, 117, 109]) = false) (n1 : (s.toList == [97, 108, 112, 104, 97]) = false) (n2 : (s.toList == [98, 108, 97, 110, 107]) = false) (n3 : (s.toList == [99, 110, 116, 114, 108]) = false) (n4 : (s.toList == [100, 105, 103, 105, 116]) = false) (n5 : (s.toList == [103, 114, 97, 112, 104]) = false) (n6 : (s.toList == [108, 111, 119, 101, 114]) = false) (n7 : (s.toList == [112, 114, 105, 110, 116]) = false) (n8 : (s.toList == [112, 117, 110, 99, 116]) = false) (y : (s.toList == [115, 112, 97, 99, 101]) = true) :
    Calls Try.prog 21 #[.string s, .int .u8 c] w fun e w' => e = .returned (clsAns (clsOf s.toList) c) ∧ w' = w := by
  have e : clsOf s.toList = some (fun c => decide (c = 32 ∨ (9 ≤ c ∧ c ≤ 13))) := by
    unfold clsOf
    rw [if_neg (by rw [n0]; simp)]; rw [if_neg (by rw [n1]; simp)]; rw [if_neg (by rw [n2]; simp)]; rw [if_neg (by rw [n3]; simp)]; rw [if_neg (by rw [n4]; simp)]; rw [if_neg (by rw [n5]; simp)]; rw [if_neg (by rw [n6]; simp)]; rw [if_neg (by rw [n7]; simp)]; rw [if_neg (by rw [n8]; simp)]; rw [if_pos y]
  rw [e]
  clear e
  go_enter Try.func21, Try.ntmps21
  go_wp2
  all_goals go_ret2
  all_goals refine ⟨congrArg (fun b => Ending.returned (.tuple #[.bool b, .bool true])) ?_, rfl⟩
  all_goals (rw [Bool.eq_iff_iff]; simp [lo, up, di, gr] <;> omega)

set_option maxHeartbeats 1000000 in
theorem cls_upper (s : ByteArray) (c : Int) (w : World) (h0 : 0 ≤ c) (h1 : c ≤ 255) (n0 : (s.toList == [97, 108, 110, 117, 109]) = false) (n1 : (s.toList == [97, 108, 112, 104, 97]) = false) (n2 : (s.toList == [98, 108, 97, 110, 107]) = false) (n3 : (s.toList == [99, 110, 116, 114, 108]) = false) (n4 : (s.toList == [100, 105, 103, 105, 116]) = false) (n5 : (s.toList == [103, 114, 97, 112, 104]) = false) (n6 : (s.toList == [108, 111, 119, 101, 114]) = false) (n7 : (s.toList == [112, 114, 105, 110, 116]) = false) (n8 : (s.toList == [112, 117, 110, 99, 116]) = false) (n9 : (s.toList == [115, 112, 97, 99, 101]) = false) (y : (s.toList == [117, 112, 112, 101, 114]) = true) :
    Calls Try.prog 21 #[.string s, .int .u8 c] w fun e w' => e = .returned (clsAns (clsOf s.toList) c) ∧ w' = w := by
  have e : clsOf s.toList = some (up) := by
    unfold clsOf
    rw [if_neg (by rw [n0]; simp)]; rw [if_neg (by rw [n1]; simp)]; rw [if_neg (by rw [n2]; simp)]; rw [if_neg (by rw [n3]; simp)]; rw [if_neg (by rw [n4]; simp)]; rw [if_neg (by rw [n5]; simp)]; rw [if_neg (by rw [n6]; simp)]; rw [if_neg (by rw [n7]; simp)]; rw [if_neg (by rw [n8]; simp)]; rw [if_neg (by rw [n9]; simp)]; rw [if_pos y]
  rw [e]
  clear e
  go_enter Try.func21, Try.ntmps21
  go_wp2
  all_goals go_ret2
  all_goals refine ⟨congrArg (fun b => Ending.returned (.tuple #[.bool b, .bool true])) ?_, rfl⟩
  all_goals (rw [Bool.eq_iff_iff]; simp [lo, up, di, gr] <;> omega)

set_option maxHeartbeats 1000000 in
theorem cls_xdigit (s : ByteArray) (c : Int) (w : World) (h0 : 0 ≤ c) (h1 : c ≤ 255) (n0 : (s.toList == [97, 108, 110, 117, 109]) = false) (n1 : (s.toList == [97, 108, 112, 104, 97]) = false) (n2 : (s.toList == [98, 108, 97, 110, 107]) = false) (n3 : (s.toList == [99, 110, 116, 114, 108]) = false) (n4 : (s.toList == [100, 105, 103, 105, 116]) = false) (n5 : (s.toList == [103, 114, 97, 112, 104]) = false) (n6 : (s.toList == [108, 111, 119, 101, 114]) = false) (n7 : (s.toList == [112, 114, 105, 110, 116]) = false) (n8 : (s.toList == [112, 117, 110, 99, 116]) = false) (n9 : (s.toList == [115, 112, 97, 99, 101]) = false) (n10 : (s.toList == [117, 112, 112, 101, 114]) = false) (y : (s.toList == [120, 100, 105, 103, 105, 116]) = true) :
    Calls Try.prog 21 #[.string s, .int .u8 c] w fun e w' => e = .returned (clsAns (clsOf s.toList) c) ∧ w' = w := by
  have e : clsOf s.toList = some (fun c => di c || decide (97 ≤ c ∧ c ≤ 102) || decide (65 ≤ c ∧ c ≤ 70)) := by
    unfold clsOf
    rw [if_neg (by rw [n0]; simp)]; rw [if_neg (by rw [n1]; simp)]; rw [if_neg (by rw [n2]; simp)]; rw [if_neg (by rw [n3]; simp)]; rw [if_neg (by rw [n4]; simp)]; rw [if_neg (by rw [n5]; simp)]; rw [if_neg (by rw [n6]; simp)]; rw [if_neg (by rw [n7]; simp)]; rw [if_neg (by rw [n8]; simp)]; rw [if_neg (by rw [n9]; simp)]; rw [if_neg (by rw [n10]; simp)]; rw [if_pos y]
  rw [e]
  clear e
  go_enter Try.func21, Try.ntmps21
  go_wp2
  all_goals go_ret2
  all_goals refine ⟨congrArg (fun b => Ending.returned (.tuple #[.bool b, .bool true])) ?_, rfl⟩
  all_goals (rw [Bool.eq_iff_iff]; simp [lo, up, di, gr] <;> omega)

set_option maxHeartbeats 1000000 in
theorem cls_none (s : ByteArray) (c : Int) (w : World) (h0 : 0 ≤ c) (h1 : c ≤ 255) (n0 : (s.toList == [97, 108, 110, 117, 109]) = false) (n1 : (s.toList == [97, 108, 112, 104, 97]) = false) (n2 : (s.toList == [98, 108, 97, 110, 107]) = false) (n3 : (s.toList == [99, 110, 116, 114, 108]) = false) (n4 : (s.toList == [100, 105, 103, 105, 116]) = false) (n5 : (s.toList == [103, 114, 97, 112, 104]) = false) (n6 : (s.toList == [108, 111, 119, 101, 114]) = false) (n7 : (s.toList == [112, 114, 105, 110, 116]) = false) (n8 : (s.toList == [112, 117, 110, 99, 116]) = false) (n9 : (s.toList == [115, 112, 97, 99, 101]) = false) (n10 : (s.toList == [117, 112, 112, 101, 114]) = false) (n11 : (s.toList == [120, 100, 105, 103, 105, 116]) = false) :
    Calls Try.prog 21 #[.string s, .int .u8 c] w fun e w' => e = .returned (clsAns (clsOf s.toList) c) ∧ w' = w := by
  have e : clsOf s.toList = none := by
    unfold clsOf
    rw [if_neg (by rw [n0]; simp)]; rw [if_neg (by rw [n1]; simp)]; rw [if_neg (by rw [n2]; simp)]; rw [if_neg (by rw [n3]; simp)]; rw [if_neg (by rw [n4]; simp)]; rw [if_neg (by rw [n5]; simp)]; rw [if_neg (by rw [n6]; simp)]; rw [if_neg (by rw [n7]; simp)]; rw [if_neg (by rw [n8]; simp)]; rw [if_neg (by rw [n9]; simp)]; rw [if_neg (by rw [n10]; simp)]; rw [if_neg (by rw [n11]; simp)]
  rw [e]
  clear e
  go_enter Try.func21, Try.ntmps21
  go_wp2
  all_goals go_ret2
  all_goals exact ⟨rfl, rfl⟩

/-- isClass, at every name. -/
theorem class_any (s : ByteArray) (c : Int) (w : World) (h0 : 0 ≤ c) (h1 : c ≤ 255) :
    Calls Try.prog 21 #[.string s, .int .u8 c] w fun e w' => e = .returned (clsAns (clsOf s.toList) c) ∧ w' = w := by
  cases n0 : (s.toList == [97, 108, 110, 117, 109])
  case true => exact cls_alnum s c w h0 h1  n0
  cases n1 : (s.toList == [97, 108, 112, 104, 97])
  case true => exact cls_alpha s c w h0 h1 n0 n1
  cases n2 : (s.toList == [98, 108, 97, 110, 107])
  case true => exact cls_blank s c w h0 h1 n0 n1 n2
  cases n3 : (s.toList == [99, 110, 116, 114, 108])
  case true => exact cls_cntrl s c w h0 h1 n0 n1 n2 n3
  cases n4 : (s.toList == [100, 105, 103, 105, 116])
  case true => exact cls_digit s c w h0 h1 n0 n1 n2 n3 n4
  cases n5 : (s.toList == [103, 114, 97, 112, 104])
  case true => exact cls_graph s c w h0 h1 n0 n1 n2 n3 n4 n5
  cases n6 : (s.toList == [108, 111, 119, 101, 114])
  case true => exact cls_lower s c w h0 h1 n0 n1 n2 n3 n4 n5 n6
  cases n7 : (s.toList == [112, 114, 105, 110, 116])
  case true => exact cls_print s c w h0 h1 n0 n1 n2 n3 n4 n5 n6 n7
  cases n8 : (s.toList == [112, 117, 110, 99, 116])
  case true => exact cls_punct s c w h0 h1 n0 n1 n2 n3 n4 n5 n6 n7 n8
  cases n9 : (s.toList == [115, 112, 97, 99, 101])
  case true => exact cls_space s c w h0 h1 n0 n1 n2 n3 n4 n5 n6 n7 n8 n9
  cases n10 : (s.toList == [117, 112, 112, 101, 114])
  case true => exact cls_upper s c w h0 h1 n0 n1 n2 n3 n4 n5 n6 n7 n8 n9 n10
  cases n11 : (s.toList == [120, 100, 105, 103, 105, 116])
  case true => exact cls_xdigit s c w h0 h1 n0 n1 n2 n3 n4 n5 n6 n7 n8 n9 n10 n11
  exact cls_none s c w h0 h1 n0 n1 n2 n3 n4 n5 n6 n7 n8 n9 n10 n11
end Go.Proofs.Qxb6601775a
