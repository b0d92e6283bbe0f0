/-
  The cells of a new Params.
-/
import Derived.Test.YtlmmdldjfpdcfaaGreatDoorGadB
namespace Go.Proofs.YtlmmdldjfpdcfaaGreatDoor
open Go.RowKit
theorem all10 : (#[.int .u64 0, .int .u64 0, .int .u64 0, .int .u64 0, .int .u64 0, .int .u64 0, .int .u64 0, .int .u64 0, .int .u64 0, .int .u8 0] : Array Value).all (·.oneCell') = true := by kernel_rfl
theorem info76 : (Tryz.prog.info? 76).map (·.size) = some 10 := by kernel_rfl
end Go.Proofs.YtlmmdldjfpdcfaaGreatDoor
