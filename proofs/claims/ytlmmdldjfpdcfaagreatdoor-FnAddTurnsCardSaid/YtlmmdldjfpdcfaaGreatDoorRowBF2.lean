/-
  Closed facts of the row of FnAddTurns, each by itself.
-/
import Derived.Test.YtlmmdldjfpdcfaaGreatDoorRows
import Derived.ProofKit
namespace Go.Proofs.YtlmmdldjfpdcfaaGreatDoor.fnAddTurns
open Go.RowKit
theorem k2 : (mapsRowed Tryz.pinned.checked.prog) = true := by kernel_rfl
theorem k5 : ((Rows.fnAddTurnsRow.stops == [])) = true := by kernel_rfl
theorem k8 : ((Tryz.pinned.checked.prog.stopKnobs == [])) = true := by kernel_rfl
theorem k11 : ((Rows.fnAddTurnsRow.recurses == Tryz.pinned.checked.prog.recurses 5)) = true := by kernel_rfl
theorem k14 : ((Rows.fnAddTurnsRow.ifaces == (Tryz.f5.params.toList ++ (OpenSpec.ofChange Rows.fnAddTurnsSpec).bare.plain.varTypes Tryz.pinned.checked.prog).any (Tryz.pinned.checked.prog.ifacesRec ·))) = true := by kernel_rfl
theorem k17 : ((Rows.fnAddTurnsRow.wideKeys == (Tryz.f5.params.toList ++ (OpenSpec.ofChange Rows.fnAddTurnsSpec).bare.plain.varTypes Tryz.pinned.checked.prog ++ Tryz.f5.resultTypes.toList).any (Tryz.pinned.checked.prog.wideKeysFrom ·))) = true := by kernel_rfl
theorem k20 : ((Rows.fnAddTurnsRow.ifacesOut == Tryz.f5.resultTypes.toList.any (Tryz.pinned.checked.prog.ifacesRec ·))) = true := by kernel_rfl
theorem k23 : (Rows.fnAddTurnsRow.shortTexts.isNone) = true := by kernel_rfl
theorem k26 : ((Rows.fnAddTurnsRow.lifted == Tryz.pinned.checked.prog.liftsFinal)) = true := by kernel_rfl
theorem k29 : ((Rows.fnAddTurnsRow.pinned == Rows.fnAddTurnsRow.pinnedBy)) = true := by kernel_rfl
end Go.Proofs.YtlmmdldjfpdcfaaGreatDoor.fnAddTurns
