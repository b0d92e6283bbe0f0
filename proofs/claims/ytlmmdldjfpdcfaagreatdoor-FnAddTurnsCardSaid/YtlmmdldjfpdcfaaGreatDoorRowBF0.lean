/-
  Closed facts of the row of FnAddTurns, each by itself.
-/
import Derived.Test.YtlmmdldjfpdcfaaGreatDoorRows
import Derived.ProofKit
namespace Go.Proofs.YtlmmdldjfpdcfaaGreatDoor.fnAddTurns
open Go.RowKit
theorem k0 : (Rows.fnAddTurnsRow.wf (OpenSpec.ofChange (OpenSpec.ofChange Rows.fnAddTurnsSpec).bare)) = true := by kernel_rfl
theorem k3 : (Tryz.f5.params.all (Tryz.pinned.checked.prog.readableRec ·)) = true := by kernel_rfl
theorem k6 : ((Tryz.pinned.checked.prog.stops == [])) = true := by kernel_rfl
theorem k9 : ((Rows.fnAddTurnsRow.inPlace == Tryz.pinned.checked.prog.inPlace 5)) = true := by kernel_rfl
theorem k12 : ((Rows.fnAddTurnsRow.named == Tryz.pinned.checked.prog.varsNamed 5)) = true := by kernel_rfl
theorem k15 : ((Rows.fnAddTurnsRow.mapsOut == Tryz.pinned.checked.prog.mapsAmong Tryz.f5.resultTypes.toList)) = true := by kernel_rfl
theorem k18 : ((OpenSpec.ofChange Rows.fnAddTurnsSpec).bare.vars.all (Tryz.pinned.checked.prog.varReadable ·)) = true := by kernel_rfl
theorem k21 : ((Rows.fnAddTurnsRow.loopsOut == Tryz.f5.resultTypes.toList.any (Tryz.pinned.checked.prog.loopsFrom ·))) = true := by kernel_rfl
theorem k24 : (Tryz.pinned.checked.prog.stopsHeard) = true := by kernel_rfl
theorem k27 : ((Tryz.pinned.checked.prog.make == some Rows.fnAddTurnsRow.make)) = true := by kernel_rfl
theorem k30 : ((Rows.fnAddTurnsRow.veiled == (Tryz.f5.params.toList ++ (OpenSpec.ofChange Rows.fnAddTurnsSpec).bare.plain.varTypes Tryz.pinned.checked.prog ++ Tryz.f5.resultTypes.toList).any (Tryz.pinned.checked.prog.veiledRec ·))) = true := by kernel_rfl
end Go.Proofs.YtlmmdldjfpdcfaaGreatDoor.fnAddTurns
