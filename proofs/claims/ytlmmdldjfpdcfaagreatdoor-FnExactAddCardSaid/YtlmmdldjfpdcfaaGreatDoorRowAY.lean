/-
  FnExactAdd: the row.
-/
import Derived.Test.YtlmmdldjfpdcfaaGreatDoorRowA
import Derived.Test.YtlmmdldjfpdcfaaGreatDoorRowAF
import Derived.Test.YtlmmdldjfpdcfaaGreatDoorRowAD
namespace Go.Proofs.YtlmmdldjfpdcfaaGreatDoor.fnExactAdd
open Go.ChangeShapes Go.WideShapes Go.ChangeAt Go.RowKit
theorem said : Rows.FnExactAddSaid :=
  OpenClaim.holds_of_cond 3 Tryz.f3 rfl rfl rfl rfl rfl rfl rfl ⟨rfl, rfl, rfl, rfl, rfl⟩ rfl rfl rfl rfl rfl cName Tryz.func3 cFacts cInst cWrap
    (fun os started H enc _ F => by rw [OpenClaim.pre_eq_preRow]; exact lifted os started H enc F)
end Go.Proofs.YtlmmdldjfpdcfaaGreatDoor.fnExactAdd
