/-
  Closed facts of the row of FnExactAdd, each by itself.
-/
import Derived.Test.YtlmmdldjfpdcfaaGreatDoorRows
import Derived.ProofKit
namespace Go.Proofs.YtlmmdldjfpdcfaaGreatDoor.fnExactAdd
open Go.RowKit
theorem k2 : (mapsRowed Tryz.pinned.checked.prog) = true := by kernel_rfl
theorem k5 : ((Rows.fnExactAddRow.stops == [])) = true := by kernel_rfl
theorem k8 : ((Tryz.pinned.checked.prog.stopKnobs == [])) = true := by kernel_rfl
theorem k11 : ((Rows.fnExactAddRow.recurses == Tryz.pinned.checked.prog.recurses 3)) = true := by kernel_rfl
theorem k14 : ((Rows.fnExactAddRow.ifaces == (Tryz.f3.params.toList ++ (OpenSpec.ofChange Rows.fnExactAddSpec).bare.plain.varTypes Tryz.pinned.checked.prog).any (Tryz.pinned.checked.prog.ifacesRec ·))) = true := by kernel_rfl
theorem k17 : ((Rows.fnExactAddRow.wideKeys == (Tryz.f3.params.toList ++ (OpenSpec.ofChange Rows.fnExactAddSpec).bare.plain.varTypes Tryz.pinned.checked.prog ++ Tryz.f3.resultTypes.toList).any (Tryz.pinned.checked.prog.wideKeysFrom ·))) = true := by kernel_rfl
theorem k20 : ((Rows.fnExactAddRow.ifacesOut == Tryz.f3.resultTypes.toList.any (Tryz.pinned.checked.prog.ifacesRec ·))) = true := by kernel_rfl
theorem k23 : (Rows.fnExactAddRow.shortTexts.isNone) = true := by kernel_rfl
theorem k26 : ((Rows.fnExactAddRow.lifted == Tryz.pinned.checked.prog.liftsFinal)) = true := by kernel_rfl
theorem k29 : ((Rows.fnExactAddRow.pinned == Rows.fnExactAddRow.pinnedBy)) = true := by kernel_rfl
end Go.Proofs.YtlmmdldjfpdcfaaGreatDoor.fnExactAdd
