/- The closed facts that FnExpected's row asks of the program. -/
import Derived.Test.YtemdillhbnmjkaaGreatDoorRows
import Derived.JoinedOf
import Derived.Stop.Joined
import Derived.ProofKit
namespace Go.Proofs.YtemdillhbnmjkaaGreatDoor
open Go
theorem fnExpected_joined : joinedFacts Tryz.pinned.checked.prog 5 Tryz.f5 Rows.fnExpectedSpec Rows.fnExpectedRow = true := by kernel_rfl
theorem fnExpected_named : Tryz.pinned.checked.prog.funcNamed Rows.fnExpectedRow.func = some 5 := by kernel_rfl
theorem fnExpected_instance : (Tryz.f5).isInstance Tryz.pinned.checked.prog Rows.fnExpectedRow.origin Rows.fnExpectedRow.targs := (of_decide_eq_true (by kernel_rfl))
theorem fnExpected_wrapper : (Tryz.f5).isWrapper Tryz.pinned.checked.prog Rows.fnExpectedRow.wrapper Rows.fnExpectedRow.mainSum := (by unfold Func.isWrapper; first | (rw [if_pos (by decide +kernel)]; kernel_rfl) | (rw [if_neg (by decide +kernel)]; exact ⟨rfl, rfl⟩))
end Go.Proofs.YtemdillhbnmjkaaGreatDoor
