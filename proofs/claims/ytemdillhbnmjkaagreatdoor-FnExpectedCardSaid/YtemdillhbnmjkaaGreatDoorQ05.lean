/- Which function a method called through an interface is: of the kinds of states and of transitions that networks of grammars have. Printed by gen_b1.py. -/
import Derived.Test.YtemdillhbnmjkaaGreatDoorQ04
import Derived.KernelRfl
namespace Go.Proofs.YtemdillhbnmjkaaGreatDoor
open Go.RowKit

/-- The kinds of states that networks of grammars have. -/
inductive SK where
  | basic | rstart | bstart | rstop | bend
  deriving DecidableEq
def SK.num : SK → Int | .basic => 1 | .rstart => 2 | .bstart => 3 | .rstop => 7 | .bend => 8
def SK.ptr : SK → TypeId | .basic => 317 | .rstart => 271 | .bstart => 320 | .rstop => 199 | .bend => 265
def SK.str : SK → TypeId | .basic => 370 | .rstart => 270 | .bstart => 365 | .rstop => 273 | .bend => 281
/-- the fields behind the common ones, when a state is made -/
def SK.zero : SK → List Value
  | .basic => []
  | .rstart => [.nilIface, .bool false]
  | .bstart => [.int .i64 0, .bool false, .pointer none]
  | .rstop => []
  | .bend => [.nilIface]

/-- The kinds of transitions. -/
inductive TK where
  | eps | atom | rule
  deriving DecidableEq
def TK.ptr : TK → TypeId | .eps => 277 | .atom => 337 | .rule => 191

@[go_sem] theorem m_AddTransition (k : SK) (a : Addr) (w : World) : (method 583 k.ptr (.pointer (some a)) "AddTransition").run Tryz.prog w = .ok (120, .pointer (some a)) w := by cases k <;> kernel_rfl
@[go_sem] theorem n_AddTransition (k : SK) (a : Addr) (w : World) : (nilAhead 583 k.ptr (.pointer (some a)) "AddTransition").run Tryz.prog w = .ok (some false) w := by cases k <;> kernel_rfl
@[go_sem] theorem m_AddTransition_basic (a : Addr) (w : World) : (method 583 317 (.pointer (some a)) "AddTransition").run Tryz.prog w = .ok (120, .pointer (some a)) w := by kernel_rfl
@[go_sem] theorem n_AddTransition_basic (a : Addr) (w : World) : (nilAhead 583 317 (.pointer (some a)) "AddTransition").run Tryz.prog w = .ok (some false) w := by kernel_rfl
@[go_sem] theorem m_AddTransition_rstart (a : Addr) (w : World) : (method 583 271 (.pointer (some a)) "AddTransition").run Tryz.prog w = .ok (120, .pointer (some a)) w := by kernel_rfl
@[go_sem] theorem n_AddTransition_rstart (a : Addr) (w : World) : (nilAhead 583 271 (.pointer (some a)) "AddTransition").run Tryz.prog w = .ok (some false) w := by kernel_rfl
@[go_sem] theorem m_AddTransition_bstart (a : Addr) (w : World) : (method 583 320 (.pointer (some a)) "AddTransition").run Tryz.prog w = .ok (120, .pointer (some a)) w := by kernel_rfl
@[go_sem] theorem n_AddTransition_bstart (a : Addr) (w : World) : (nilAhead 583 320 (.pointer (some a)) "AddTransition").run Tryz.prog w = .ok (some false) w := by kernel_rfl
@[go_sem] theorem m_AddTransition_rstop (a : Addr) (w : World) : (method 583 199 (.pointer (some a)) "AddTransition").run Tryz.prog w = .ok (120, .pointer (some a)) w := by kernel_rfl
@[go_sem] theorem n_AddTransition_rstop (a : Addr) (w : World) : (nilAhead 583 199 (.pointer (some a)) "AddTransition").run Tryz.prog w = .ok (some false) w := by kernel_rfl
@[go_sem] theorem m_AddTransition_bend (a : Addr) (w : World) : (method 583 265 (.pointer (some a)) "AddTransition").run Tryz.prog w = .ok (120, .pointer (some a)) w := by kernel_rfl
@[go_sem] theorem n_AddTransition_bend (a : Addr) (w : World) : (nilAhead 583 265 (.pointer (some a)) "AddTransition").run Tryz.prog w = .ok (some false) w := by kernel_rfl
@[go_sem] theorem m_Equals (k : SK) (a : Addr) (w : World) : (method 583 k.ptr (.pointer (some a)) "Equals").run Tryz.prog w = .ok (217, .pointer (some a)) w := by cases k <;> kernel_rfl
@[go_sem] theorem n_Equals (k : SK) (a : Addr) (w : World) : (nilAhead 583 k.ptr (.pointer (some a)) "Equals").run Tryz.prog w = .ok (some false) w := by cases k <;> kernel_rfl
@[go_sem] theorem m_Equals_basic (a : Addr) (w : World) : (method 583 317 (.pointer (some a)) "Equals").run Tryz.prog w = .ok (217, .pointer (some a)) w := by kernel_rfl
@[go_sem] theorem n_Equals_basic (a : Addr) (w : World) : (nilAhead 583 317 (.pointer (some a)) "Equals").run Tryz.prog w = .ok (some false) w := by kernel_rfl
@[go_sem] theorem m_Equals_rstart (a : Addr) (w : World) : (method 583 271 (.pointer (some a)) "Equals").run Tryz.prog w = .ok (217, .pointer (some a)) w := by kernel_rfl
@[go_sem] theorem n_Equals_rstart (a : Addr) (w : World) : (nilAhead 583 271 (.pointer (some a)) "Equals").run Tryz.prog w = .ok (some false) w := by kernel_rfl
@[go_sem] theorem m_Equals_bstart (a : Addr) (w : World) : (method 583 320 (.pointer (some a)) "Equals").run Tryz.prog w = .ok (217, .pointer (some a)) w := by kernel_rfl
@[go_sem] theorem n_Equals_bstart (a : Addr) (w : World) : (nilAhead 583 320 (.pointer (some a)) "Equals").run Tryz.prog w = .ok (some false) w := by kernel_rfl
@[go_sem] theorem m_Equals_rstop (a : Addr) (w : World) : (method 583 199 (.pointer (some a)) "Equals").run Tryz.prog w = .ok (217, .pointer (some a)) w := by kernel_rfl
@[go_sem] theorem n_Equals_rstop (a : Addr) (w : World) : (nilAhead 583 199 (.pointer (some a)) "Equals").run Tryz.prog w = .ok (some false) w := by kernel_rfl
@[go_sem] theorem m_Equals_bend (a : Addr) (w : World) : (method 583 265 (.pointer (some a)) "Equals").run Tryz.prog w = .ok (217, .pointer (some a)) w := by kernel_rfl
@[go_sem] theorem n_Equals_bend (a : Addr) (w : World) : (nilAhead 583 265 (.pointer (some a)) "Equals").run Tryz.prog w = .ok (some false) w := by kernel_rfl
@[go_sem] theorem m_GetATN (k : SK) (a : Addr) (w : World) : (method 583 k.ptr (.pointer (some a)) "GetATN").run Tryz.prog w = .ok (218, .pointer (some a)) w := by cases k <;> kernel_rfl
@[go_sem] theorem n_GetATN (k : SK) (a : Addr) (w : World) : (nilAhead 583 k.ptr (.pointer (some a)) "GetATN").run Tryz.prog w = .ok (some false) w := by cases k <;> kernel_rfl
@[go_sem] theorem m_GetATN_basic (a : Addr) (w : World) : (method 583 317 (.pointer (some a)) "GetATN").run Tryz.prog w = .ok (218, .pointer (some a)) w := by kernel_rfl
@[go_sem] theorem n_GetATN_basic (a : Addr) (w : World) : (nilAhead 583 317 (.pointer (some a)) "GetATN").run Tryz.prog w = .ok (some false) w := by kernel_rfl
@[go_sem] theorem m_GetATN_rstart (a : Addr) (w : World) : (method 583 271 (.pointer (some a)) "GetATN").run Tryz.prog w = .ok (218, .pointer (some a)) w := by kernel_rfl
@[go_sem] theorem n_GetATN_rstart (a : Addr) (w : World) : (nilAhead 583 271 (.pointer (some a)) "GetATN").run Tryz.prog w = .ok (some false) w := by kernel_rfl
@[go_sem] theorem m_GetATN_bstart (a : Addr) (w : World) : (method 583 320 (.pointer (some a)) "GetATN").run Tryz.prog w = .ok (218, .pointer (some a)) w := by kernel_rfl
@[go_sem] theorem n_GetATN_bstart (a : Addr) (w : World) : (nilAhead 583 320 (.pointer (some a)) "GetATN").run Tryz.prog w = .ok (some false) w := by kernel_rfl
@[go_sem] theorem m_GetATN_rstop (a : Addr) (w : World) : (method 583 199 (.pointer (some a)) "GetATN").run Tryz.prog w = .ok (218, .pointer (some a)) w := by kernel_rfl
@[go_sem] theorem n_GetATN_rstop (a : Addr) (w : World) : (nilAhead 583 199 (.pointer (some a)) "GetATN").run Tryz.prog w = .ok (some false) w := by kernel_rfl
@[go_sem] theorem m_GetATN_bend (a : Addr) (w : World) : (method 583 265 (.pointer (some a)) "GetATN").run Tryz.prog w = .ok (218, .pointer (some a)) w := by kernel_rfl
@[go_sem] theorem n_GetATN_bend (a : Addr) (w : World) : (nilAhead 583 265 (.pointer (some a)) "GetATN").run Tryz.prog w = .ok (some false) w := by kernel_rfl
@[go_sem] theorem m_GetEpsilonOnlyTransitions (k : SK) (a : Addr) (w : World) : (method 583 k.ptr (.pointer (some a)) "GetEpsilonOnlyTransitions").run Tryz.prog w = .ok (219, .pointer (some a)) w := by cases k <;> kernel_rfl
@[go_sem] theorem n_GetEpsilonOnlyTransitions (k : SK) (a : Addr) (w : World) : (nilAhead 583 k.ptr (.pointer (some a)) "GetEpsilonOnlyTransitions").run Tryz.prog w = .ok (some false) w := by cases k <;> kernel_rfl
@[go_sem] theorem m_GetEpsilonOnlyTransitions_basic (a : Addr) (w : World) : (method 583 317 (.pointer (some a)) "GetEpsilonOnlyTransitions").run Tryz.prog w = .ok (219, .pointer (some a)) w := by kernel_rfl
@[go_sem] theorem n_GetEpsilonOnlyTransitions_basic (a : Addr) (w : World) : (nilAhead 583 317 (.pointer (some a)) "GetEpsilonOnlyTransitions").run Tryz.prog w = .ok (some false) w := by kernel_rfl
@[go_sem] theorem m_GetEpsilonOnlyTransitions_rstart (a : Addr) (w : World) : (method 583 271 (.pointer (some a)) "GetEpsilonOnlyTransitions").run Tryz.prog w = .ok (219, .pointer (some a)) w := by kernel_rfl
@[go_sem] theorem n_GetEpsilonOnlyTransitions_rstart (a : Addr) (w : World) : (nilAhead 583 271 (.pointer (some a)) "GetEpsilonOnlyTransitions").run Tryz.prog w = .ok (some false) w := by kernel_rfl
@[go_sem] theorem m_GetEpsilonOnlyTransitions_bstart (a : Addr) (w : World) : (method 583 320 (.pointer (some a)) "GetEpsilonOnlyTransitions").run Tryz.prog w = .ok (219, .pointer (some a)) w := by kernel_rfl
@[go_sem] theorem n_GetEpsilonOnlyTransitions_bstart (a : Addr) (w : World) : (nilAhead 583 320 (.pointer (some a)) "GetEpsilonOnlyTransitions").run Tryz.prog w = .ok (some false) w := by kernel_rfl
@[go_sem] theorem m_GetEpsilonOnlyTransitions_rstop (a : Addr) (w : World) : (method 583 199 (.pointer (some a)) "GetEpsilonOnlyTransitions").run Tryz.prog w = .ok (219, .pointer (some a)) w := by kernel_rfl
@[go_sem] theorem n_GetEpsilonOnlyTransitions_rstop (a : Addr) (w : World) : (nilAhead 583 199 (.pointer (some a)) "GetEpsilonOnlyTransitions").run Tryz.prog w = .ok (some false) w := by kernel_rfl
@[go_sem] theorem m_GetEpsilonOnlyTransitions_bend (a : Addr) (w : World) : (method 583 265 (.pointer (some a)) "GetEpsilonOnlyTransitions").run Tryz.prog w = .ok (219, .pointer (some a)) w := by kernel_rfl
@[go_sem] theorem n_GetEpsilonOnlyTransitions_bend (a : Addr) (w : World) : (nilAhead 583 265 (.pointer (some a)) "GetEpsilonOnlyTransitions").run Tryz.prog w = .ok (some false) w := by kernel_rfl
@[go_sem] theorem m_GetNextTokenWithinRule (k : SK) (a : Addr) (w : World) : (method 583 k.ptr (.pointer (some a)) "GetNextTokenWithinRule").run Tryz.prog w = .ok (220, .pointer (some a)) w := by cases k <;> kernel_rfl
@[go_sem] theorem n_GetNextTokenWithinRule (k : SK) (a : Addr) (w : World) : (nilAhead 583 k.ptr (.pointer (some a)) "GetNextTokenWithinRule").run Tryz.prog w = .ok (some false) w := by cases k <;> kernel_rfl
@[go_sem] theorem m_GetNextTokenWithinRule_basic (a : Addr) (w : World) : (method 583 317 (.pointer (some a)) "GetNextTokenWithinRule").run Tryz.prog w = .ok (220, .pointer (some a)) w := by kernel_rfl
@[go_sem] theorem n_GetNextTokenWithinRule_basic (a : Addr) (w : World) : (nilAhead 583 317 (.pointer (some a)) "GetNextTokenWithinRule").run Tryz.prog w = .ok (some false) w := by kernel_rfl
@[go_sem] theorem m_GetNextTokenWithinRule_rstart (a : Addr) (w : World) : (method 583 271 (.pointer (some a)) "GetNextTokenWithinRule").run Tryz.prog w = .ok (220, .pointer (some a)) w := by kernel_rfl
@[go_sem] theorem n_GetNextTokenWithinRule_rstart (a : Addr) (w : World) : (nilAhead 583 271 (.pointer (some a)) "GetNextTokenWithinRule").run Tryz.prog w = .ok (some false) w := by kernel_rfl
@[go_sem] theorem m_GetNextTokenWithinRule_bstart (a : Addr) (w : World) : (method 583 320 (.pointer (some a)) "GetNextTokenWithinRule").run Tryz.prog w = .ok (220, .pointer (some a)) w := by kernel_rfl
@[go_sem] theorem n_GetNextTokenWithinRule_bstart (a : Addr) (w : World) : (nilAhead 583 320 (.pointer (some a)) "GetNextTokenWithinRule").run Tryz.prog w = .ok (some false) w := by kernel_rfl
@[go_sem] theorem m_GetNextTokenWithinRule_rstop (a : Addr) (w : World) : (method 583 199 (.pointer (some a)) "GetNextTokenWithinRule").run Tryz.prog w = .ok (220, .pointer (some a)) w := by kernel_rfl
@[go_sem] theorem n_GetNextTokenWithinRule_rstop (a : Addr) (w : World) : (nilAhead 583 199 (.pointer (some a)) "GetNextTokenWithinRule").run Tryz.prog w = .ok (some false) w := by kernel_rfl
@[go_sem] theorem m_GetNextTokenWithinRule_bend (a : Addr) (w : World) : (method 583 265 (.pointer (some a)) "GetNextTokenWithinRule").run Tryz.prog w = .ok (220, .pointer (some a)) w := by kernel_rfl
@[go_sem] theorem n_GetNextTokenWithinRule_bend (a : Addr) (w : World) : (nilAhead 583 265 (.pointer (some a)) "GetNextTokenWithinRule").run Tryz.prog w = .ok (some false) w := by kernel_rfl
@[go_sem] theorem m_GetRuleIndex (k : SK) (a : Addr) (w : World) : (method 583 k.ptr (.pointer (some a)) "GetRuleIndex").run Tryz.prog w = .ok (221, .pointer (some a)) w := by cases k <;> kernel_rfl
@[go_sem] theorem n_GetRuleIndex (k : SK) (a : Addr) (w : World) : (nilAhead 583 k.ptr (.pointer (some a)) "GetRuleIndex").run Tryz.prog w = .ok (some false) w := by cases k <;> kernel_rfl
@[go_sem] theorem m_GetRuleIndex_basic (a : Addr) (w : World) : (method 583 317 (.pointer (some a)) "GetRuleIndex").run Tryz.prog w = .ok (221, .pointer (some a)) w := by kernel_rfl
@[go_sem] theorem n_GetRuleIndex_basic (a : Addr) (w : World) : (nilAhead 583 317 (.pointer (some a)) "GetRuleIndex").run Tryz.prog w = .ok (some false) w := by kernel_rfl
@[go_sem] theorem m_GetRuleIndex_rstart (a : Addr) (w : World) : (method 583 271 (.pointer (some a)) "GetRuleIndex").run Tryz.prog w = .ok (221, .pointer (some a)) w := by kernel_rfl
@[go_sem] theorem n_GetRuleIndex_rstart (a : Addr) (w : World) : (nilAhead 583 271 (.pointer (some a)) "GetRuleIndex").run Tryz.prog w = .ok (some false) w := by kernel_rfl
@[go_sem] theorem m_GetRuleIndex_bstart (a : Addr) (w : World) : (method 583 320 (.pointer (some a)) "GetRuleIndex").run Tryz.prog w = .ok (221, .pointer (some a)) w := by kernel_rfl
@[go_sem] theorem n_GetRuleIndex_bstart (a : Addr) (w : World) : (nilAhead 583 320 (.pointer (some a)) "GetRuleIndex").run Tryz.prog w = .ok (some false) w := by kernel_rfl
@[go_sem] theorem m_GetRuleIndex_rstop (a : Addr) (w : World) : (method 583 199 (.pointer (some a)) "GetRuleIndex").run Tryz.prog w = .ok (221, .pointer (some a)) w := by kernel_rfl
@[go_sem] theorem n_GetRuleIndex_rstop (a : Addr) (w : World) : (nilAhead 583 199 (.pointer (some a)) "GetRuleIndex").run Tryz.prog w = .ok (some false) w := by kernel_rfl
@[go_sem] theorem m_GetRuleIndex_bend (a : Addr) (w : World) : (method 583 265 (.pointer (some a)) "GetRuleIndex").run Tryz.prog w = .ok (221, .pointer (some a)) w := by kernel_rfl
@[go_sem] theorem n_GetRuleIndex_bend (a : Addr) (w : World) : (nilAhead 583 265 (.pointer (some a)) "GetRuleIndex").run Tryz.prog w = .ok (some false) w := by kernel_rfl
@[go_sem] theorem m_GetStateNumber (k : SK) (a : Addr) (w : World) : (method 583 k.ptr (.pointer (some a)) "GetStateNumber").run Tryz.prog w = .ok (222, .pointer (some a)) w := by cases k <;> kernel_rfl
@[go_sem] theorem n_GetStateNumber (k : SK) (a : Addr) (w : World) : (nilAhead 583 k.ptr (.pointer (some a)) "GetStateNumber").run Tryz.prog w = .ok (some false) w := by cases k <;> kernel_rfl
@[go_sem] theorem m_GetStateNumber_basic (a : Addr) (w : World) : (method 583 317 (.pointer (some a)) "GetStateNumber").run Tryz.prog w = .ok (222, .pointer (some a)) w := by kernel_rfl
@[go_sem] theorem n_GetStateNumber_basic (a : Addr) (w : World) : (nilAhead 583 317 (.pointer (some a)) "GetStateNumber").run Tryz.prog w = .ok (some false) w := by kernel_rfl
@[go_sem] theorem m_GetStateNumber_rstart (a : Addr) (w : World) : (method 583 271 (.pointer (some a)) "GetStateNumber").run Tryz.prog w = .ok (222, .pointer (some a)) w := by kernel_rfl
@[go_sem] theorem n_GetStateNumber_rstart (a : Addr) (w : World) : (nilAhead 583 271 (.pointer (some a)) "GetStateNumber").run Tryz.prog w = .ok (some false) w := by kernel_rfl
@[go_sem] theorem m_GetStateNumber_bstart (a : Addr) (w : World) : (method 583 320 (.pointer (some a)) "GetStateNumber").run Tryz.prog w = .ok (222, .pointer (some a)) w := by kernel_rfl
@[go_sem] theorem n_GetStateNumber_bstart (a : Addr) (w : World) : (nilAhead 583 320 (.pointer (some a)) "GetStateNumber").run Tryz.prog w = .ok (some false) w := by kernel_rfl
@[go_sem] theorem m_GetStateNumber_rstop (a : Addr) (w : World) : (method 583 199 (.pointer (some a)) "GetStateNumber").run Tryz.prog w = .ok (222, .pointer (some a)) w := by kernel_rfl
@[go_sem] theorem n_GetStateNumber_rstop (a : Addr) (w : World) : (nilAhead 583 199 (.pointer (some a)) "GetStateNumber").run Tryz.prog w = .ok (some false) w := by kernel_rfl
@[go_sem] theorem m_GetStateNumber_bend (a : Addr) (w : World) : (method 583 265 (.pointer (some a)) "GetStateNumber").run Tryz.prog w = .ok (222, .pointer (some a)) w := by kernel_rfl
@[go_sem] theorem n_GetStateNumber_bend (a : Addr) (w : World) : (nilAhead 583 265 (.pointer (some a)) "GetStateNumber").run Tryz.prog w = .ok (some false) w := by kernel_rfl
@[go_sem] theorem m_GetTransitions (k : SK) (a : Addr) (w : World) : (method 583 k.ptr (.pointer (some a)) "GetTransitions").run Tryz.prog w = .ok (121, .pointer (some a)) w := by cases k <;> kernel_rfl
@[go_sem] theorem n_GetTransitions (k : SK) (a : Addr) (w : World) : (nilAhead 583 k.ptr (.pointer (some a)) "GetTransitions").run Tryz.prog w = .ok (some false) w := by cases k <;> kernel_rfl
@[go_sem] theorem m_GetTransitions_basic (a : Addr) (w : World) : (method 583 317 (.pointer (some a)) "GetTransitions").run Tryz.prog w = .ok (121, .pointer (some a)) w := by kernel_rfl
@[go_sem] theorem n_GetTransitions_basic (a : Addr) (w : World) : (nilAhead 583 317 (.pointer (some a)) "GetTransitions").run Tryz.prog w = .ok (some false) w := by kernel_rfl
@[go_sem] theorem m_GetTransitions_rstart (a : Addr) (w : World) : (method 583 271 (.pointer (some a)) "GetTransitions").run Tryz.prog w = .ok (121, .pointer (some a)) w := by kernel_rfl
@[go_sem] theorem n_GetTransitions_rstart (a : Addr) (w : World) : (nilAhead 583 271 (.pointer (some a)) "GetTransitions").run Tryz.prog w = .ok (some false) w := by kernel_rfl
@[go_sem] theorem m_GetTransitions_bstart (a : Addr) (w : World) : (method 583 320 (.pointer (some a)) "GetTransitions").run Tryz.prog w = .ok (121, .pointer (some a)) w := by kernel_rfl
@[go_sem] theorem n_GetTransitions_bstart (a : Addr) (w : World) : (nilAhead 583 320 (.pointer (some a)) "GetTransitions").run Tryz.prog w = .ok (some false) w := by kernel_rfl
@[go_sem] theorem m_GetTransitions_rstop (a : Addr) (w : World) : (method 583 199 (.pointer (some a)) "GetTransitions").run Tryz.prog w = .ok (121, .pointer (some a)) w := by kernel_rfl
@[go_sem] theorem n_GetTransitions_rstop (a : Addr) (w : World) : (nilAhead 583 199 (.pointer (some a)) "GetTransitions").run Tryz.prog w = .ok (some false) w := by kernel_rfl
@[go_sem] theorem m_GetTransitions_bend (a : Addr) (w : World) : (method 583 265 (.pointer (some a)) "GetTransitions").run Tryz.prog w = .ok (121, .pointer (some a)) w := by kernel_rfl
@[go_sem] theorem n_GetTransitions_bend (a : Addr) (w : World) : (nilAhead 583 265 (.pointer (some a)) "GetTransitions").run Tryz.prog w = .ok (some false) w := by kernel_rfl
@[go_sem] theorem m_Hash (k : SK) (a : Addr) (w : World) : (method 583 k.ptr (.pointer (some a)) "Hash").run Tryz.prog w = .ok (224, .pointer (some a)) w := by cases k <;> kernel_rfl
@[go_sem] theorem n_Hash (k : SK) (a : Addr) (w : World) : (nilAhead 583 k.ptr (.pointer (some a)) "Hash").run Tryz.prog w = .ok (some false) w := by cases k <;> kernel_rfl
@[go_sem] theorem m_Hash_basic (a : Addr) (w : World) : (method 583 317 (.pointer (some a)) "Hash").run Tryz.prog w = .ok (224, .pointer (some a)) w := by kernel_rfl
@[go_sem] theorem n_Hash_basic (a : Addr) (w : World) : (nilAhead 583 317 (.pointer (some a)) "Hash").run Tryz.prog w = .ok (some false) w := by kernel_rfl
@[go_sem] theorem m_Hash_rstart (a : Addr) (w : World) : (method 583 271 (.pointer (some a)) "Hash").run Tryz.prog w = .ok (224, .pointer (some a)) w := by kernel_rfl
@[go_sem] theorem n_Hash_rstart (a : Addr) (w : World) : (nilAhead 583 271 (.pointer (some a)) "Hash").run Tryz.prog w = .ok (some false) w := by kernel_rfl
@[go_sem] theorem m_Hash_bstart (a : Addr) (w : World) : (method 583 320 (.pointer (some a)) "Hash").run Tryz.prog w = .ok (224, .pointer (some a)) w := by kernel_rfl
@[go_sem] theorem n_Hash_bstart (a : Addr) (w : World) : (nilAhead 583 320 (.pointer (some a)) "Hash").run Tryz.prog w = .ok (some false) w := by kernel_rfl
@[go_sem] theorem m_Hash_rstop (a : Addr) (w : World) : (method 583 199 (.pointer (some a)) "Hash").run Tryz.prog w = .ok (224, .pointer (some a)) w := by kernel_rfl
@[go_sem] theorem n_Hash_rstop (a : Addr) (w : World) : (nilAhead 583 199 (.pointer (some a)) "Hash").run Tryz.prog w = .ok (some false) w := by kernel_rfl
@[go_sem] theorem m_Hash_bend (a : Addr) (w : World) : (method 583 265 (.pointer (some a)) "Hash").run Tryz.prog w = .ok (224, .pointer (some a)) w := by kernel_rfl
@[go_sem] theorem n_Hash_bend (a : Addr) (w : World) : (nilAhead 583 265 (.pointer (some a)) "Hash").run Tryz.prog w = .ok (some false) w := by kernel_rfl
@[go_sem] theorem m_SetATN (k : SK) (a : Addr) (w : World) : (method 583 k.ptr (.pointer (some a)) "SetATN").run Tryz.prog w = .ok (225, .pointer (some a)) w := by cases k <;> kernel_rfl
@[go_sem] theorem n_SetATN (k : SK) (a : Addr) (w : World) : (nilAhead 583 k.ptr (.pointer (some a)) "SetATN").run Tryz.prog w = .ok (some false) w := by cases k <;> kernel_rfl
@[go_sem] theorem m_SetATN_basic (a : Addr) (w : World) : (method 583 317 (.pointer (some a)) "SetATN").run Tryz.prog w = .ok (225, .pointer (some a)) w := by kernel_rfl
@[go_sem] theorem n_SetATN_basic (a : Addr) (w : World) : (nilAhead 583 317 (.pointer (some a)) "SetATN").run Tryz.prog w = .ok (some false) w := by kernel_rfl
@[go_sem] theorem m_SetATN_rstart (a : Addr) (w : World) : (method 583 271 (.pointer (some a)) "SetATN").run Tryz.prog w = .ok (225, .pointer (some a)) w := by kernel_rfl
@[go_sem] theorem n_SetATN_rstart (a : Addr) (w : World) : (nilAhead 583 271 (.pointer (some a)) "SetATN").run Tryz.prog w = .ok (some false) w := by kernel_rfl
@[go_sem] theorem m_SetATN_bstart (a : Addr) (w : World) : (method 583 320 (.pointer (some a)) "SetATN").run Tryz.prog w = .ok (225, .pointer (some a)) w := by kernel_rfl
@[go_sem] theorem n_SetATN_bstart (a : Addr) (w : World) : (nilAhead 583 320 (.pointer (some a)) "SetATN").run Tryz.prog w = .ok (some false) w := by kernel_rfl
@[go_sem] theorem m_SetATN_rstop (a : Addr) (w : World) : (method 583 199 (.pointer (some a)) "SetATN").run Tryz.prog w = .ok (225, .pointer (some a)) w := by kernel_rfl
@[go_sem] theorem n_SetATN_rstop (a : Addr) (w : World) : (nilAhead 583 199 (.pointer (some a)) "SetATN").run Tryz.prog w = .ok (some false) w := by kernel_rfl
@[go_sem] theorem m_SetATN_bend (a : Addr) (w : World) : (method 583 265 (.pointer (some a)) "SetATN").run Tryz.prog w = .ok (225, .pointer (some a)) w := by kernel_rfl
@[go_sem] theorem n_SetATN_bend (a : Addr) (w : World) : (nilAhead 583 265 (.pointer (some a)) "SetATN").run Tryz.prog w = .ok (some false) w := by kernel_rfl
@[go_sem] theorem m_SetNextTokenWithinRule (k : SK) (a : Addr) (w : World) : (method 583 k.ptr (.pointer (some a)) "SetNextTokenWithinRule").run Tryz.prog w = .ok (226, .pointer (some a)) w := by cases k <;> kernel_rfl
@[go_sem] theorem n_SetNextTokenWithinRule (k : SK) (a : Addr) (w : World) : (nilAhead 583 k.ptr (.pointer (some a)) "SetNextTokenWithinRule").run Tryz.prog w = .ok (some false) w := by cases k <;> kernel_rfl
@[go_sem] theorem m_SetNextTokenWithinRule_basic (a : Addr) (w : World) : (method 583 317 (.pointer (some a)) "SetNextTokenWithinRule").run Tryz.prog w = .ok (226, .pointer (some a)) w := by kernel_rfl
@[go_sem] theorem n_SetNextTokenWithinRule_basic (a : Addr) (w : World) : (nilAhead 583 317 (.pointer (some a)) "SetNextTokenWithinRule").run Tryz.prog w = .ok (some false) w := by kernel_rfl
@[go_sem] theorem m_SetNextTokenWithinRule_rstart (a : Addr) (w : World) : (method 583 271 (.pointer (some a)) "SetNextTokenWithinRule").run Tryz.prog w = .ok (226, .pointer (some a)) w := by kernel_rfl
@[go_sem] theorem n_SetNextTokenWithinRule_rstart (a : Addr) (w : World) : (nilAhead 583 271 (.pointer (some a)) "SetNextTokenWithinRule").run Tryz.prog w = .ok (some false) w := by kernel_rfl
@[go_sem] theorem m_SetNextTokenWithinRule_bstart (a : Addr) (w : World) : (method 583 320 (.pointer (some a)) "SetNextTokenWithinRule").run Tryz.prog w = .ok (226, .pointer (some a)) w := by kernel_rfl
@[go_sem] theorem n_SetNextTokenWithinRule_bstart (a : Addr) (w : World) : (nilAhead 583 320 (.pointer (some a)) "SetNextTokenWithinRule").run Tryz.prog w = .ok (some false) w := by kernel_rfl
@[go_sem] theorem m_SetNextTokenWithinRule_rstop (a : Addr) (w : World) : (method 583 199 (.pointer (some a)) "SetNextTokenWithinRule").run Tryz.prog w = .ok (226, .pointer (some a)) w := by kernel_rfl
@[go_sem] theorem n_SetNextTokenWithinRule_rstop (a : Addr) (w : World) : (nilAhead 583 199 (.pointer (some a)) "SetNextTokenWithinRule").run Tryz.prog w = .ok (some false) w := by kernel_rfl
@[go_sem] theorem m_SetNextTokenWithinRule_bend (a : Addr) (w : World) : (method 583 265 (.pointer (some a)) "SetNextTokenWithinRule").run Tryz.prog w = .ok (226, .pointer (some a)) w := by kernel_rfl
@[go_sem] theorem n_SetNextTokenWithinRule_bend (a : Addr) (w : World) : (nilAhead 583 265 (.pointer (some a)) "SetNextTokenWithinRule").run Tryz.prog w = .ok (some false) w := by kernel_rfl
@[go_sem] theorem m_SetRuleIndex (k : SK) (a : Addr) (w : World) : (method 583 k.ptr (.pointer (some a)) "SetRuleIndex").run Tryz.prog w = .ok (227, .pointer (some a)) w := by cases k <;> kernel_rfl
@[go_sem] theorem n_SetRuleIndex (k : SK) (a : Addr) (w : World) : (nilAhead 583 k.ptr (.pointer (some a)) "SetRuleIndex").run Tryz.prog w = .ok (some false) w := by cases k <;> kernel_rfl
@[go_sem] theorem m_SetRuleIndex_basic (a : Addr) (w : World) : (method 583 317 (.pointer (some a)) "SetRuleIndex").run Tryz.prog w = .ok (227, .pointer (some a)) w := by kernel_rfl
@[go_sem] theorem n_SetRuleIndex_basic (a : Addr) (w : World) : (nilAhead 583 317 (.pointer (some a)) "SetRuleIndex").run Tryz.prog w = .ok (some false) w := by kernel_rfl
@[go_sem] theorem m_SetRuleIndex_rstart (a : Addr) (w : World) : (method 583 271 (.pointer (some a)) "SetRuleIndex").run Tryz.prog w = .ok (227, .pointer (some a)) w := by kernel_rfl
@[go_sem] theorem n_SetRuleIndex_rstart (a : Addr) (w : World) : (nilAhead 583 271 (.pointer (some a)) "SetRuleIndex").run Tryz.prog w = .ok (some false) w := by kernel_rfl
@[go_sem] theorem m_SetRuleIndex_bstart (a : Addr) (w : World) : (method 583 320 (.pointer (some a)) "SetRuleIndex").run Tryz.prog w = .ok (227, .pointer (some a)) w := by kernel_rfl
@[go_sem] theorem n_SetRuleIndex_bstart (a : Addr) (w : World) : (nilAhead 583 320 (.pointer (some a)) "SetRuleIndex").run Tryz.prog w = .ok (some false) w := by kernel_rfl
@[go_sem] theorem m_SetRuleIndex_rstop (a : Addr) (w : World) : (method 583 199 (.pointer (some a)) "SetRuleIndex").run Tryz.prog w = .ok (227, .pointer (some a)) w := by kernel_rfl
@[go_sem] theorem n_SetRuleIndex_rstop (a : Addr) (w : World) : (nilAhead 583 199 (.pointer (some a)) "SetRuleIndex").run Tryz.prog w = .ok (some false) w := by kernel_rfl
@[go_sem] theorem m_SetRuleIndex_bend (a : Addr) (w : World) : (method 583 265 (.pointer (some a)) "SetRuleIndex").run Tryz.prog w = .ok (227, .pointer (some a)) w := by kernel_rfl
@[go_sem] theorem n_SetRuleIndex_bend (a : Addr) (w : World) : (nilAhead 583 265 (.pointer (some a)) "SetRuleIndex").run Tryz.prog w = .ok (some false) w := by kernel_rfl
@[go_sem] theorem m_SetStateNumber (k : SK) (a : Addr) (w : World) : (method 583 k.ptr (.pointer (some a)) "SetStateNumber").run Tryz.prog w = .ok (228, .pointer (some a)) w := by cases k <;> kernel_rfl
@[go_sem] theorem n_SetStateNumber (k : SK) (a : Addr) (w : World) : (nilAhead 583 k.ptr (.pointer (some a)) "SetStateNumber").run Tryz.prog w = .ok (some false) w := by cases k <;> kernel_rfl
@[go_sem] theorem m_SetStateNumber_basic (a : Addr) (w : World) : (method 583 317 (.pointer (some a)) "SetStateNumber").run Tryz.prog w = .ok (228, .pointer (some a)) w := by kernel_rfl
@[go_sem] theorem n_SetStateNumber_basic (a : Addr) (w : World) : (nilAhead 583 317 (.pointer (some a)) "SetStateNumber").run Tryz.prog w = .ok (some false) w := by kernel_rfl
@[go_sem] theorem m_SetStateNumber_rstart (a : Addr) (w : World) : (method 583 271 (.pointer (some a)) "SetStateNumber").run Tryz.prog w = .ok (228, .pointer (some a)) w := by kernel_rfl
@[go_sem] theorem n_SetStateNumber_rstart (a : Addr) (w : World) : (nilAhead 583 271 (.pointer (some a)) "SetStateNumber").run Tryz.prog w = .ok (some false) w := by kernel_rfl
@[go_sem] theorem m_SetStateNumber_bstart (a : Addr) (w : World) : (method 583 320 (.pointer (some a)) "SetStateNumber").run Tryz.prog w = .ok (228, .pointer (some a)) w := by kernel_rfl
@[go_sem] theorem n_SetStateNumber_bstart (a : Addr) (w : World) : (nilAhead 583 320 (.pointer (some a)) "SetStateNumber").run Tryz.prog w = .ok (some false) w := by kernel_rfl
@[go_sem] theorem m_SetStateNumber_rstop (a : Addr) (w : World) : (method 583 199 (.pointer (some a)) "SetStateNumber").run Tryz.prog w = .ok (228, .pointer (some a)) w := by kernel_rfl
@[go_sem] theorem n_SetStateNumber_rstop (a : Addr) (w : World) : (nilAhead 583 199 (.pointer (some a)) "SetStateNumber").run Tryz.prog w = .ok (some false) w := by kernel_rfl
@[go_sem] theorem m_SetStateNumber_bend (a : Addr) (w : World) : (method 583 265 (.pointer (some a)) "SetStateNumber").run Tryz.prog w = .ok (228, .pointer (some a)) w := by kernel_rfl
@[go_sem] theorem n_SetStateNumber_bend (a : Addr) (w : World) : (nilAhead 583 265 (.pointer (some a)) "SetStateNumber").run Tryz.prog w = .ok (some false) w := by kernel_rfl
@[go_sem] theorem m_getDecision (a : Addr) (w : World) : (method 583 320 (.pointer (some a)) "loop.example/pub-predictionsofgrammars/pub/antlratn.getDecision").run Tryz.prog w = .ok (235, .pointer (some a)) w := by kernel_rfl
@[go_sem] theorem n_getDecision (a : Addr) (w : World) : (nilAhead 583 320 (.pointer (some a)) "loop.example/pub-predictionsofgrammars/pub/antlratn.getDecision").run Tryz.prog w = .ok (some false) w := by kernel_rfl
@[go_sem] theorem m_getDecision_b (a : Addr) (w : World) : (method 583 SK.bstart.ptr (.pointer (some a)) "loop.example/pub-predictionsofgrammars/pub/antlratn.getDecision").run Tryz.prog w = .ok (235, .pointer (some a)) w := by kernel_rfl
@[go_sem] theorem n_getDecision_b (a : Addr) (w : World) : (nilAhead 583 SK.bstart.ptr (.pointer (some a)) "loop.example/pub-predictionsofgrammars/pub/antlratn.getDecision").run Tryz.prog w = .ok (some false) w := by kernel_rfl
@[go_sem] theorem m_setDecision (a : Addr) (w : World) : (method 583 320 (.pointer (some a)) "loop.example/pub-predictionsofgrammars/pub/antlratn.setDecision").run Tryz.prog w = .ok (237, .pointer (some a)) w := by kernel_rfl
@[go_sem] theorem n_setDecision (a : Addr) (w : World) : (nilAhead 583 320 (.pointer (some a)) "loop.example/pub-predictionsofgrammars/pub/antlratn.setDecision").run Tryz.prog w = .ok (some false) w := by kernel_rfl
@[go_sem] theorem m_setDecision_b (a : Addr) (w : World) : (method 583 SK.bstart.ptr (.pointer (some a)) "loop.example/pub-predictionsofgrammars/pub/antlratn.setDecision").run Tryz.prog w = .ok (237, .pointer (some a)) w := by kernel_rfl
@[go_sem] theorem n_setDecision_b (a : Addr) (w : World) : (nilAhead 583 SK.bstart.ptr (.pointer (some a)) "loop.example/pub-predictionsofgrammars/pub/antlratn.setDecision").run Tryz.prog w = .ok (some false) w := by kernel_rfl
@[go_sem] theorem m_getEndState (a : Addr) (w : World) : (method 583 320 (.pointer (some a)) "loop.example/pub-predictionsofgrammars/pub/antlratn.getEndState").run Tryz.prog w = .ok (241, .pointer (some a)) w := by kernel_rfl
@[go_sem] theorem n_getEndState (a : Addr) (w : World) : (nilAhead 583 320 (.pointer (some a)) "loop.example/pub-predictionsofgrammars/pub/antlratn.getEndState").run Tryz.prog w = .ok (some false) w := by kernel_rfl
@[go_sem] theorem m_getEndState_b (a : Addr) (w : World) : (method 583 SK.bstart.ptr (.pointer (some a)) "loop.example/pub-predictionsofgrammars/pub/antlratn.getEndState").run Tryz.prog w = .ok (241, .pointer (some a)) w := by kernel_rfl
@[go_sem] theorem n_getEndState_b (a : Addr) (w : World) : (nilAhead 583 SK.bstart.ptr (.pointer (some a)) "loop.example/pub-predictionsofgrammars/pub/antlratn.getEndState").run Tryz.prog w = .ok (some false) w := by kernel_rfl
@[go_sem] theorem m_setEndState (a : Addr) (w : World) : (method 583 320 (.pointer (some a)) "loop.example/pub-predictionsofgrammars/pub/antlratn.setEndState").run Tryz.prog w = .ok (242, .pointer (some a)) w := by kernel_rfl
@[go_sem] theorem n_setEndState (a : Addr) (w : World) : (nilAhead 583 320 (.pointer (some a)) "loop.example/pub-predictionsofgrammars/pub/antlratn.setEndState").run Tryz.prog w = .ok (some false) w := by kernel_rfl
@[go_sem] theorem m_setEndState_b (a : Addr) (w : World) : (method 583 SK.bstart.ptr (.pointer (some a)) "loop.example/pub-predictionsofgrammars/pub/antlratn.setEndState").run Tryz.prog w = .ok (242, .pointer (some a)) w := by kernel_rfl
@[go_sem] theorem n_setEndState_b (a : Addr) (w : World) : (nilAhead 583 SK.bstart.ptr (.pointer (some a)) "loop.example/pub-predictionsofgrammars/pub/antlratn.setEndState").run Tryz.prog w = .ok (some false) w := by kernel_rfl
@[go_sem] theorem m_t_getTarget (k : TK) (a : Addr) (w : World) : (method 583 k.ptr (.pointer (some a)) "loop.example/pub-predictionsofgrammars/pub/antlratn.getTarget").run Tryz.prog w = .ok (77, .pointer (some a)) w := by cases k <;> kernel_rfl
@[go_sem] theorem n_t_getTarget (k : TK) (a : Addr) (w : World) : (nilAhead 583 k.ptr (.pointer (some a)) "loop.example/pub-predictionsofgrammars/pub/antlratn.getTarget").run Tryz.prog w = .ok (some false) w := by cases k <;> kernel_rfl
@[go_sem] theorem m_t_getTarget_eps (a : Addr) (w : World) : (method 583 277 (.pointer (some a)) "loop.example/pub-predictionsofgrammars/pub/antlratn.getTarget").run Tryz.prog w = .ok (77, .pointer (some a)) w := by kernel_rfl
@[go_sem] theorem n_t_getTarget_eps (a : Addr) (w : World) : (nilAhead 583 277 (.pointer (some a)) "loop.example/pub-predictionsofgrammars/pub/antlratn.getTarget").run Tryz.prog w = .ok (some false) w := by kernel_rfl
@[go_sem] theorem m_t_getTarget_atom (a : Addr) (w : World) : (method 583 337 (.pointer (some a)) "loop.example/pub-predictionsofgrammars/pub/antlratn.getTarget").run Tryz.prog w = .ok (77, .pointer (some a)) w := by kernel_rfl
@[go_sem] theorem n_t_getTarget_atom (a : Addr) (w : World) : (nilAhead 583 337 (.pointer (some a)) "loop.example/pub-predictionsofgrammars/pub/antlratn.getTarget").run Tryz.prog w = .ok (some false) w := by kernel_rfl
@[go_sem] theorem m_t_getTarget_rule (a : Addr) (w : World) : (method 583 191 (.pointer (some a)) "loop.example/pub-predictionsofgrammars/pub/antlratn.getTarget").run Tryz.prog w = .ok (77, .pointer (some a)) w := by kernel_rfl
@[go_sem] theorem n_t_getTarget_rule (a : Addr) (w : World) : (nilAhead 583 191 (.pointer (some a)) "loop.example/pub-predictionsofgrammars/pub/antlratn.getTarget").run Tryz.prog w = .ok (some false) w := by kernel_rfl
@[go_sem] theorem m_t_getIsEpsilon (k : TK) (a : Addr) (w : World) : (method 583 k.ptr (.pointer (some a)) "loop.example/pub-predictionsofgrammars/pub/antlratn.getIsEpsilon").run Tryz.prog w = .ok (213, .pointer (some a)) w := by cases k <;> kernel_rfl
@[go_sem] theorem n_t_getIsEpsilon (k : TK) (a : Addr) (w : World) : (nilAhead 583 k.ptr (.pointer (some a)) "loop.example/pub-predictionsofgrammars/pub/antlratn.getIsEpsilon").run Tryz.prog w = .ok (some false) w := by cases k <;> kernel_rfl
@[go_sem] theorem m_t_getIsEpsilon_eps (a : Addr) (w : World) : (method 583 277 (.pointer (some a)) "loop.example/pub-predictionsofgrammars/pub/antlratn.getIsEpsilon").run Tryz.prog w = .ok (213, .pointer (some a)) w := by kernel_rfl
@[go_sem] theorem n_t_getIsEpsilon_eps (a : Addr) (w : World) : (nilAhead 583 277 (.pointer (some a)) "loop.example/pub-predictionsofgrammars/pub/antlratn.getIsEpsilon").run Tryz.prog w = .ok (some false) w := by kernel_rfl
@[go_sem] theorem m_t_getIsEpsilon_atom (a : Addr) (w : World) : (method 583 337 (.pointer (some a)) "loop.example/pub-predictionsofgrammars/pub/antlratn.getIsEpsilon").run Tryz.prog w = .ok (213, .pointer (some a)) w := by kernel_rfl
@[go_sem] theorem n_t_getIsEpsilon_atom (a : Addr) (w : World) : (nilAhead 583 337 (.pointer (some a)) "loop.example/pub-predictionsofgrammars/pub/antlratn.getIsEpsilon").run Tryz.prog w = .ok (some false) w := by kernel_rfl
@[go_sem] theorem m_t_getIsEpsilon_rule (a : Addr) (w : World) : (method 583 191 (.pointer (some a)) "loop.example/pub-predictionsofgrammars/pub/antlratn.getIsEpsilon").run Tryz.prog w = .ok (213, .pointer (some a)) w := by kernel_rfl
@[go_sem] theorem n_t_getIsEpsilon_rule (a : Addr) (w : World) : (nilAhead 583 191 (.pointer (some a)) "loop.example/pub-predictionsofgrammars/pub/antlratn.getIsEpsilon").run Tryz.prog w = .ok (some false) w := by kernel_rfl
@[go_sem] theorem m_t_getLabel (k : TK) (a : Addr) (w : World) : (method 583 k.ptr (.pointer (some a)) "loop.example/pub-predictionsofgrammars/pub/antlratn.getLabel").run Tryz.prog w = .ok (214, .pointer (some a)) w := by cases k <;> kernel_rfl
@[go_sem] theorem n_t_getLabel (k : TK) (a : Addr) (w : World) : (nilAhead 583 k.ptr (.pointer (some a)) "loop.example/pub-predictionsofgrammars/pub/antlratn.getLabel").run Tryz.prog w = .ok (some false) w := by cases k <;> kernel_rfl
@[go_sem] theorem m_t_getLabel_eps (a : Addr) (w : World) : (method 583 277 (.pointer (some a)) "loop.example/pub-predictionsofgrammars/pub/antlratn.getLabel").run Tryz.prog w = .ok (214, .pointer (some a)) w := by kernel_rfl
@[go_sem] theorem n_t_getLabel_eps (a : Addr) (w : World) : (nilAhead 583 277 (.pointer (some a)) "loop.example/pub-predictionsofgrammars/pub/antlratn.getLabel").run Tryz.prog w = .ok (some false) w := by kernel_rfl
@[go_sem] theorem m_t_getLabel_atom (a : Addr) (w : World) : (method 583 337 (.pointer (some a)) "loop.example/pub-predictionsofgrammars/pub/antlratn.getLabel").run Tryz.prog w = .ok (214, .pointer (some a)) w := by kernel_rfl
@[go_sem] theorem n_t_getLabel_atom (a : Addr) (w : World) : (nilAhead 583 337 (.pointer (some a)) "loop.example/pub-predictionsofgrammars/pub/antlratn.getLabel").run Tryz.prog w = .ok (some false) w := by kernel_rfl
@[go_sem] theorem m_t_getLabel_rule (a : Addr) (w : World) : (method 583 191 (.pointer (some a)) "loop.example/pub-predictionsofgrammars/pub/antlratn.getLabel").run Tryz.prog w = .ok (214, .pointer (some a)) w := by kernel_rfl
@[go_sem] theorem n_t_getLabel_rule (a : Addr) (w : World) : (nilAhead 583 191 (.pointer (some a)) "loop.example/pub-predictionsofgrammars/pub/antlratn.getLabel").run Tryz.prog w = .ok (some false) w := by kernel_rfl
end Go.Proofs.YtemdillhbnmjkaaGreatDoor
