/-
  FnAddTurns: the row.
-/
import Derived.Test.YtlmmdldjfpdcfaaGreatDoorRowB
import Derived.Test.YtlmmdldjfpdcfaaGreatDoorRowBF
import Derived.Test.YtlmmdldjfpdcfaaGreatDoorRowBD
namespace Go.Proofs.YtlmmdldjfpdcfaaGreatDoor.fnAddTurns
open Go.ChangeShapes Go.WideShapes Go.ChangeAt Go.RowKit
theorem said : Rows.FnAddTurnsSaid :=
  OpenClaim.holds_of_cond 5 Tryz.f5 rfl rfl rfl rfl rfl rfl rfl ⟨rfl, rfl, rfl, rfl, rfl⟩ rfl rfl rfl rfl rfl cName Tryz.func5 cFacts cInst cWrap
    (fun os started H enc _ F => by rw [OpenClaim.pre_eq_preRow]; exact lifted os started H enc F)
end Go.Proofs.YtlmmdldjfpdcfaaGreatDoor.fnAddTurns
