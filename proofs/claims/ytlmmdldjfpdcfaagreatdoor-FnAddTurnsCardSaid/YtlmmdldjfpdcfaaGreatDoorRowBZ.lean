/-
  FnAddTurns, for every kind and every list of shares: it returns true, and its arguments read as they did. Its conditions: the listed package variables read as their initialisers lay them; the arguments are within the form's own reach.
-/
import Derived.Test.YtlmmdldjfpdcfaaGreatDoorRowBY
namespace Go.Proofs.YtlmmdldjfpdcfaaGreatDoor.fnAddTurns
open Go.ChangeShapes Go.WideShapes Go.ChangeAt Go.RowKit
/-- No parameter wants a stand-in; the program's own looks are off. -/
theorem plain (f : FuncId) (fn : Func) (hf : Tryz.pinned.checked.prog.funcNamed "loop.example/pub-votesinparts/laws.FnAddTurns" = some f) (hfn : Tryz.pinned.checked.prog.funcs[f]? = some fn) :
    false = Tryz.pinned.checked.prog.looks [] ∧ ∀ (j : Nat) t, fn.params[j]? = some t → Tryz.pinned.checked.prog.wantsStandIn t = false := by
  obtain rfl : f = 5 := Option.some.inj ((show Tryz.prog.funcNamed "loop.example/pub-votesinparts/laws.FnAddTurns" = some 5 by kernel_rfl).symm.trans hf) |>.symm
  obtain rfl : fn = Tryz.f5 := (Option.some.inj (Tryz.func5.symm.trans hfn)).symm
  refine ⟨by kernel_rfl, fun j t ht => ?_⟩
  rw [Tryz.params5] at ht
  have ht' := Array.mem_of_getElem? ht
  have h2 : t = 25 ∨ t = 26 := by simpa using ht'
  rcases h2 with rfl | rfl
  · exact (show Tryz.prog.wantsStandIn 25 = false by kernel_rfl)
  · exact (show Tryz.prog.wantsStandIn 26 = false by kernel_rfl)
/-- The card. -/
theorem card : Rows.FnAddTurnsCardSaid :=
  Claim7.holds_tied_plain_at .later [] _ _ _ _ said (fun _ h => by cases h) (by kernel_rfl) (fun _ h => by cases h) fnAddTurns_row_tie rfl ⟨rfl, rfl⟩ (by kernel_rfl) rfl plain (by kernel_rfl)
end Go.Proofs.YtlmmdldjfpdcfaaGreatDoor.fnAddTurns
