/-
  Closed facts of the row of FnExactAdd.
-/
import Derived.Test.YtlmmdldjfpdcfaaGreatDoorRows
import Derived.ProofKit
namespace Go.Proofs.YtlmmdldjfpdcfaaGreatDoor.fnExactAdd
open Go.RowKit
theorem cInst : Tryz.f3.isInstance Tryz.pinned.checked.prog Rows.fnExactAddRow.origin Rows.fnExactAddRow.targs := of_decide_eq_true (by kernel_rfl)
theorem cWrap : Tryz.f3.isWrapper Tryz.pinned.checked.prog Rows.fnExactAddRow.wrapper Rows.fnExactAddRow.mainSum := by unfold Func.isWrapper; first | (rw [if_pos (by decide +kernel)]; kernel_rfl) | (rw [if_neg (by decide +kernel)]; exact ⟨rfl, rfl⟩)
end Go.Proofs.YtlmmdldjfpdcfaaGreatDoor.fnExactAdd
