/-
  Closed facts of the row of FnAddTurns, joined.
-/
import Derived.Test.YtlmmdldjfpdcfaaGreatDoorRowBF0
import Derived.Test.YtlmmdldjfpdcfaaGreatDoorRowBF1
import Derived.Test.YtlmmdldjfpdcfaaGreatDoorRowBF2
namespace Go.Proofs.YtlmmdldjfpdcfaaGreatDoor.fnAddTurns
open Go.RowKit
theorem and_mk {a b : Bool} (h : a = true) (k : b = true) : (a && b) = true := by rw [h, k]; rfl
set_option maxRecDepth 100000 in
theorem cFacts : joinedFacts Tryz.pinned.checked.prog 5 Tryz.f5 (OpenSpec.ofChange Rows.fnAddTurnsSpec).bare Rows.fnAddTurnsRow = true :=
  and_mk (and_mk (and_mk (and_mk (and_mk (and_mk (and_mk (and_mk (and_mk (and_mk (and_mk (and_mk (and_mk (and_mk (and_mk (and_mk (and_mk (and_mk (and_mk (and_mk (and_mk (and_mk (and_mk (and_mk (and_mk (and_mk (and_mk (and_mk (and_mk (and_mk (and_mk (k0) k1) k2) k3) k4) k5) k6) k7) k8) k9) k10) k11) k12) k13) k14) k15) k16) k17) k18) k19) k20) k21) k22) k23) k24) k25) k26) k27) (by kernel_rfl)) k29) k30) k31
theorem cName : Tryz.pinned.checked.prog.funcNamed Rows.fnAddTurnsRow.func = some 5 := by kernel_rfl
end Go.Proofs.YtlmmdldjfpdcfaaGreatDoor.fnAddTurns
