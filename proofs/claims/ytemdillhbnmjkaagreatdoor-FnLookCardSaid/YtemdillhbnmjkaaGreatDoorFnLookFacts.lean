/- The closed facts that FnLook's row asks of the program. -/
import Derived.Test.YtemdillhbnmjkaaGreatDoorRows
import Derived.JoinedOf
import Derived.Stop.Joined
import Derived.ProofKit
namespace Go.Proofs.YtemdillhbnmjkaaGreatDoor
open Go
theorem fnLook_joined : joinedFacts Tryz.pinned.checked.prog 3 Tryz.f3 Rows.fnLookSpec Rows.fnLookRow = true := by kernel_rfl
theorem fnLook_named : Tryz.pinned.checked.prog.funcNamed Rows.fnLookRow.func = some 3 := by kernel_rfl
theorem fnLook_instance : (Tryz.f3).isInstance Tryz.pinned.checked.prog Rows.fnLookRow.origin Rows.fnLookRow.targs := (of_decide_eq_true (by kernel_rfl))
theorem fnLook_wrapper : (Tryz.f3).isWrapper Tryz.pinned.checked.prog Rows.fnLookRow.wrapper Rows.fnLookRow.mainSum := (by unfold Func.isWrapper; first | (rw [if_pos (by decide +kernel)]; kernel_rfl) | (rw [if_neg (by decide +kernel)]; exact ⟨rfl, rfl⟩))
end Go.Proofs.YtemdillhbnmjkaaGreatDoor
