/-
  DERIVED. GIVEN WITH THE SEED: THE CARDS: each row of YtlmmdldjfpdcfaaGreatDoorRows.lean that lists a variable, with what it lists TIED to the program's text (the seventh form; the later family's looks); each row that meets fmt, with fmt's text TOLD by the authors' own Lean function (tested against real Go, not proved from fmt's source: count such statements apart). THE CARD IS WHAT COUNTS. Prove the row's statement (the work); the ties are given (YtlmmdldjfpdcfaaGreatDoorTie.lean); close each card by the builder's one call (the guide's Derived/Test/ToyasCard.lean, 'card_holds'). Laid BY PROGRAM, IN A SANDBOX (cutbox-door.mjs). By AI agents, Wed Nov 11 2026. No macro, syntax, notation, axiom, sorry.
-/
import Derived.Test.YtlmmdldjfpdcfaaGreatDoorRows
import GoSem.ClaimSeven
namespace Go.Proofs.YtlmmdldjfpdcfaaGreatDoor
namespace Rows

/-- THE TIED CARD OF 'laws.FnExactAdd'. -/
def fnExactAddCard : Claim7 := { stood := { row := fnExactAddRow, standIns := [], harness := (true, "394fba2b6f7b2fd5f47a5e4d420dd421679ceba5dd2aaed75063d738560f1a4a"), looks := false }, kinds := [], alts := [], laidByText := true, laidKinds := [.data, .data, .sentinel, .data, .sentinel, .sentinel, .sentinel, .sentinel, .sentinel, .sentinel, .sentinel, .sentinel, .sentinel, .sentinel, .sentinel, .sentinel, .sentinel], laidTests := true, laidLooks := .later }
def FnExactAddCardSaid : Prop := Claim7.holds Tryz.pinned (.plain (OpenSpec.ofChange fnExactAddSpec)) fnExactAddCard

/-- THE TIED CARD OF 'laws.FnExactNext'. -/
def fnExactNextCard : Claim7 := { stood := { row := fnExactNextRow, standIns := [], harness := (true, "394fba2b6f7b2fd5f47a5e4d420dd421679ceba5dd2aaed75063d738560f1a4a"), looks := false }, kinds := [], alts := [], laidByText := true, laidKinds := [.data, .data, .sentinel, .data, .sentinel, .sentinel, .sentinel, .sentinel, .sentinel, .sentinel, .sentinel, .sentinel, .sentinel, .sentinel, .sentinel, .sentinel, .sentinel], laidTests := true, laidLooks := .later }
def FnExactNextCardSaid : Prop := Claim7.holds Tryz.pinned (.plain (OpenSpec.ofChange fnExactNextSpec)) fnExactNextCard

/-- THE TIED CARD OF 'laws.FnAddTurns'. -/
def fnAddTurnsCard : Claim7 := { stood := { row := fnAddTurnsRow, standIns := [], harness := (true, "394fba2b6f7b2fd5f47a5e4d420dd421679ceba5dd2aaed75063d738560f1a4a"), looks := false }, kinds := [], alts := [], laidByText := true, laidKinds := [.data, .data, .sentinel, .data, .sentinel, .sentinel, .sentinel, .sentinel, .sentinel, .sentinel, .sentinel, .sentinel, .sentinel, .sentinel, .sentinel, .sentinel, .sentinel], laidTests := true, laidLooks := .later }
def FnAddTurnsCardSaid : Prop := Claim7.holds Tryz.pinned (.plain (OpenSpec.ofChange fnAddTurnsSpec)) fnAddTurnsCard

/-- THE SECOND FORM's CARD OF 'laws.FnExactAdd'. -/
def fnExactAddUptoCard : Claim7 := { stood := { row := fnExactAddUptoRow, standIns := [], harness := (true, "394fba2b6f7b2fd5f47a5e4d420dd421679ceba5dd2aaed75063d738560f1a4a"), looks := false }, kinds := [], alts := [], laidByText := true, laidKinds := [.data, .data, .sentinel, .data, .sentinel, .sentinel, .sentinel, .sentinel, .sentinel, .sentinel, .sentinel, .sentinel, .sentinel, .sentinel, .sentinel, .sentinel, .sentinel], laidTests := true, laidLooks := .later }
def FnExactAddUptoCardSaid : Prop := Claim7.holds Tryz.pinned (.plain (OpenSpec.upto fnExactAddSpec)) fnExactAddUptoCard

/-- THE SECOND FORM's CARD OF 'laws.FnExactNext'. -/
def fnExactNextUptoCard : Claim7 := { stood := { row := fnExactNextUptoRow, standIns := [], harness := (true, "394fba2b6f7b2fd5f47a5e4d420dd421679ceba5dd2aaed75063d738560f1a4a"), looks := false }, kinds := [], alts := [], laidByText := true, laidKinds := [.data, .data, .sentinel, .data, .sentinel, .sentinel, .sentinel, .sentinel, .sentinel, .sentinel, .sentinel, .sentinel, .sentinel, .sentinel, .sentinel, .sentinel, .sentinel], laidTests := true, laidLooks := .later }
def FnExactNextUptoCardSaid : Prop := Claim7.holds Tryz.pinned (.plain (OpenSpec.upto fnExactNextSpec)) fnExactNextUptoCard

/-- THE SECOND FORM's CARD OF 'laws.FnAddTurns'. -/
def fnAddTurnsUptoCard : Claim7 := { stood := { row := fnAddTurnsUptoRow, standIns := [], harness := (true, "394fba2b6f7b2fd5f47a5e4d420dd421679ceba5dd2aaed75063d738560f1a4a"), looks := false }, kinds := [], alts := [], laidByText := true, laidKinds := [.data, .data, .sentinel, .data, .sentinel, .sentinel, .sentinel, .sentinel, .sentinel, .sentinel, .sentinel, .sentinel, .sentinel, .sentinel, .sentinel, .sentinel, .sentinel], laidTests := true, laidLooks := .later }
def FnAddTurnsUptoCardSaid : Prop := Claim7.holds Tryz.pinned (.plain (OpenSpec.upto fnAddTurnsSpec)) fnAddTurnsUptoCard
end Rows
end Go.Proofs.YtlmmdldjfpdcfaaGreatDoor
