/-
  Closed facts of the row of FnAddTurns, each by itself.
-/
import Derived.Test.YtlmmdldjfpdcfaaGreatDoorRows
import Derived.ProofKit
namespace Go.Proofs.YtlmmdldjfpdcfaaGreatDoor.fnAddTurns
open Go.RowKit
theorem k1 : (laidOutB Tryz.pinned.checked.prog) = true := by kernel_rfl
theorem k4 : (namedTie Tryz.pinned.checked.prog Rows.fnAddTurnsRow.named (OpenSpec.ofChange Rows.fnAddTurnsSpec).bare.vars) = true := by kernel_rfl
theorem k7 : ((Rows.fnAddTurnsRow.knobs == [])) = true := by kernel_rfl
theorem k10 : ((Rows.fnAddTurnsRow.unfollowed == Tryz.pinned.checked.prog.unfollowed 5)) = true := by kernel_rfl
theorem k13 : ((Rows.fnAddTurnsRow.maps == (Tryz.f5.params.toList ++ (OpenSpec.ofChange Rows.fnAddTurnsSpec).bare.plain.varTypes Tryz.pinned.checked.prog).any (Tryz.pinned.checked.prog.mapsRec ·))) = true := by kernel_rfl
theorem k16 : ((Rows.fnAddTurnsRow.loops == (Tryz.f5.params.toList ++ (OpenSpec.ofChange Rows.fnAddTurnsSpec).bare.plain.varTypes Tryz.pinned.checked.prog).any (Tryz.pinned.checked.prog.loopsFrom ·))) = true := by kernel_rfl
theorem k19 : (Tryz.f5.resultTypes.all (fun t => Tryz.pinned.checked.prog.readableRec t && decide (t < Tryz.pinned.checked.prog.types.size))) = true := by kernel_rfl
theorem k22 : ((Rows.fnAddTurnsRow.plainKeys == Tryz.pinned.checked.prog.plainKeys)) = true := by kernel_rfl
theorem k25 : (Tryz.pinned.checked.prog.mayEnter) = true := by kernel_rfl
theorem k28 : ((Rows.fnAddTurnsRow.kinds == (if Rows.fnAddTurnsRow.domain.isEmpty then [] else Tryz.f5.params.toList.map fun t => match Tryz.pinned.checked.prog.underlying t with | some (.int k) => some k | _ => none))) = true := by kernel_rfl
theorem k31 : (Rows.fnAddTurnsRow.veiledFits Tryz.pinned.checked.prog Tryz.f5.params.toList (Tryz.f5.params.toList ++ (OpenSpec.ofChange Rows.fnAddTurnsSpec).bare.plain.varTypes Tryz.pinned.checked.prog ++ Tryz.f5.resultTypes.toList)) = true := by kernel_rfl
end Go.Proofs.YtlmmdldjfpdcfaaGreatDoor.fnAddTurns
