/-
  Closed facts of the row of FnAddTurns.
-/
import Derived.Test.YtlmmdldjfpdcfaaGreatDoorRows
import Derived.ProofKit
namespace Go.Proofs.YtlmmdldjfpdcfaaGreatDoor.fnAddTurns
open Go.RowKit
theorem cInst : Tryz.f5.isInstance Tryz.pinned.checked.prog Rows.fnAddTurnsRow.origin Rows.fnAddTurnsRow.targs := of_decide_eq_true (by kernel_rfl)
theorem cWrap : Tryz.f5.isWrapper Tryz.pinned.checked.prog Rows.fnAddTurnsRow.wrapper Rows.fnAddTurnsRow.mainSum := by unfold Func.isWrapper; first | (rw [if_pos (by decide +kernel)]; kernel_rfl) | (rw [if_neg (by decide +kernel)]; exact ⟨rfl, rfl⟩)
end Go.Proofs.YtlmmdldjfpdcfaaGreatDoor.fnAddTurns
