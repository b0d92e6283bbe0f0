/-
  Closed facts of the row of FnExactAdd, each by itself.
-/
import Derived.Test.YtlmmdldjfpdcfaaGreatDoorRows
import Derived.ProofKit
namespace Go.Proofs.YtlmmdldjfpdcfaaGreatDoor.fnExactAdd
open Go.RowKit
theorem k0 : (Rows.fnExactAddRow.wf (OpenSpec.ofChange (OpenSpec.ofChange Rows.fnExactAddSpec).bare)) = true := by kernel_rfl
theorem k3 : (Tryz.f3.params.all (Tryz.pinned.checked.prog.readableRec ·)) = true := by kernel_rfl
theorem k6 : ((Tryz.pinned.checked.prog.stops == [])) = true := by kernel_rfl
theorem k9 : ((Rows.fnExactAddRow.inPlace == Tryz.pinned.checked.prog.inPlace 3)) = true := by kernel_rfl
theorem k12 : ((Rows.fnExactAddRow.named == Tryz.pinned.checked.prog.varsNamed 3)) = true := by kernel_rfl
theorem k15 : ((Rows.fnExactAddRow.mapsOut == Tryz.pinned.checked.prog.mapsAmong Tryz.f3.resultTypes.toList)) = true := by kernel_rfl
theorem k18 : ((OpenSpec.ofChange Rows.fnExactAddSpec).bare.vars.all (Tryz.pinned.checked.prog.varReadable ·)) = true := by kernel_rfl
theorem k21 : ((Rows.fnExactAddRow.loopsOut == Tryz.f3.resultTypes.toList.any (Tryz.pinned.checked.prog.loopsFrom ·))) = true := by kernel_rfl
theorem k24 : (Tryz.pinned.checked.prog.stopsHeard) = true := by kernel_rfl
theorem k27 : ((Tryz.pinned.checked.prog.make == some Rows.fnExactAddRow.make)) = true := by kernel_rfl
theorem k30 : ((Rows.fnExactAddRow.veiled == (Tryz.f3.params.toList ++ (OpenSpec.ofChange Rows.fnExactAddSpec).bare.plain.varTypes Tryz.pinned.checked.prog ++ Tryz.f3.resultTypes.toList).any (Tryz.pinned.checked.prog.veiledRec ·))) = true := by kernel_rfl
end Go.Proofs.YtlmmdldjfpdcfaaGreatDoor.fnExactAdd
