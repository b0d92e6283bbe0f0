/-
  Closed facts of the row of FnExactAdd, each by itself.
-/
import Derived.Test.YtlmmdldjfpdcfaaGreatDoorRows
import Derived.ProofKit
namespace Go.Proofs.YtlmmdldjfpdcfaaGreatDoor.fnExactAdd
open Go.RowKit
theorem k1 : (laidOutB Tryz.pinned.checked.prog) = true := by kernel_rfl
theorem k4 : (namedTie Tryz.pinned.checked.prog Rows.fnExactAddRow.named (OpenSpec.ofChange Rows.fnExactAddSpec).bare.vars) = true := by kernel_rfl
theorem k7 : ((Rows.fnExactAddRow.knobs == [])) = true := by kernel_rfl
theorem k10 : ((Rows.fnExactAddRow.unfollowed == Tryz.pinned.checked.prog.unfollowed 3)) = true := by kernel_rfl
theorem k13 : ((Rows.fnExactAddRow.maps == (Tryz.f3.params.toList ++ (OpenSpec.ofChange Rows.fnExactAddSpec).bare.plain.varTypes Tryz.pinned.checked.prog).any (Tryz.pinned.checked.prog.mapsRec ·))) = true := by kernel_rfl
theorem k16 : ((Rows.fnExactAddRow.loops == (Tryz.f3.params.toList ++ (OpenSpec.ofChange Rows.fnExactAddSpec).bare.plain.varTypes Tryz.pinned.checked.prog).any (Tryz.pinned.checked.prog.loopsFrom ·))) = true := by kernel_rfl
theorem k19 : (Tryz.f3.resultTypes.all (fun t => Tryz.pinned.checked.prog.readableRec t && decide (t < Tryz.pinned.checked.prog.types.size))) = true := by kernel_rfl
theorem k22 : ((Rows.fnExactAddRow.plainKeys == Tryz.pinned.checked.prog.plainKeys)) = true := by kernel_rfl
theorem k25 : (Tryz.pinned.checked.prog.mayEnter) = true := by kernel_rfl
theorem k28 : ((Rows.fnExactAddRow.kinds == (if Rows.fnExactAddRow.domain.isEmpty then [] else Tryz.f3.params.toList.map fun t => match Tryz.pinned.checked.prog.underlying t with | some (.int k) => some k | _ => none))) = true := by kernel_rfl
theorem k31 : (Rows.fnExactAddRow.veiledFits Tryz.pinned.checked.prog Tryz.f3.params.toList (Tryz.f3.params.toList ++ (OpenSpec.ofChange Rows.fnExactAddSpec).bare.plain.varTypes Tryz.pinned.checked.prog ++ Tryz.f3.resultTypes.toList)) = true := by kernel_rfl
end Go.Proofs.YtlmmdldjfpdcfaaGreatDoor.fnExactAdd
