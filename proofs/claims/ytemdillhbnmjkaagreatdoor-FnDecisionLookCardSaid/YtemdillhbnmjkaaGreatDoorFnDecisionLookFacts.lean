/- The closed facts that FnDecisionLook's row asks of the program. -/
import Derived.Test.YtemdillhbnmjkaaGreatDoorRows
import Derived.JoinedOf
import Derived.Stop.Joined
import Derived.ProofKit
namespace Go.Proofs.YtemdillhbnmjkaaGreatDoor
open Go
theorem fnDecisionLook_joined : joinedFacts Tryz.pinned.checked.prog 4 Tryz.f4 Rows.fnDecisionLookSpec Rows.fnDecisionLookRow = true := by kernel_rfl
theorem fnDecisionLook_named : Tryz.pinned.checked.prog.funcNamed Rows.fnDecisionLookRow.func = some 4 := by kernel_rfl
theorem fnDecisionLook_instance : (Tryz.f4).isInstance Tryz.pinned.checked.prog Rows.fnDecisionLookRow.origin Rows.fnDecisionLookRow.targs := (of_decide_eq_true (by kernel_rfl))
theorem fnDecisionLook_wrapper : (Tryz.f4).isWrapper Tryz.pinned.checked.prog Rows.fnDecisionLookRow.wrapper Rows.fnDecisionLookRow.mainSum := (by unfold Func.isWrapper; first | (rw [if_pos (by decide +kernel)]; kernel_rfl) | (rw [if_neg (by decide +kernel)]; exact ⟨rfl, rfl⟩))
end Go.Proofs.YtemdillhbnmjkaaGreatDoor
