/-
  DERIVED. GIVEN WITH THE SEED: THE CARDS: each row of Qxb6600694aDoorRows.lean that lists a variable, with what it lists TIED to the program's text (the seventh form; the later family's looks); each row that meets fmt, with fmt's text TOLD by the authors' own Lean function (tested against real Go, not proved from fmt's source: count such statements apart). THE CARD IS WHAT COUNTS. Prove the row's statement (the work); the ties are given (Qxb6600694aDoorTie.lean); close each card by the builder's one call (the guide's Derived/Test/ToyasCard.lean, 'card_holds'). Laid BY PROGRAM, IN A SANDBOX (cutbox-door.mjs). By AI agents, Wed Nov 11 2026. No macro, syntax, notation, axiom, sorry.
-/
import Derived.Test.Qxb6600694aDoorRows
import GoSem.ClaimSeven
namespace Go.Proofs.Qxb6600694aDoor
namespace Rows

/-- THE TIED CARD OF 'zzlaws_api_b1.FnParseEntityTagsMatchesStateMachine'. -/
def fnParseEntityTagsMatchesStateMachineCard : Claim7 := { stood := { row := fnParseEntityTagsMatchesStateMachineRow, standIns := [], harness := (true, "df53dce105fb0fcf0da1b8a6ac08c612c1b1babf2d02e08a6c632c85291c561b"), looks := false }, kinds := [], alts := [], laidByText := true, laidKinds := [.data, .pinned], laidTests := true, laidLooks := .later }
def FnParseEntityTagsMatchesStateMachineCardSaid : Prop := Claim7.holds Tryd.pinned (.plain (OpenSpec.ofChange fnParseEntityTagsMatchesStateMachineSpec)) fnParseEntityTagsMatchesStateMachineCard

/-- THE TIED CARD OF 'zzlaws_api_b1.FnParseEntityTagsReadsJoinedList'. -/
def fnParseEntityTagsReadsJoinedListCard : Claim7 := { stood := { row := fnParseEntityTagsReadsJoinedListRow, standIns := [], harness := (true, "df53dce105fb0fcf0da1b8a6ac08c612c1b1babf2d02e08a6c632c85291c561b"), looks := false }, kinds := [], alts := [], laidByText := true, laidKinds := [.data, .pinned], laidTests := true, laidLooks := .later }
def FnParseEntityTagsReadsJoinedListCardSaid : Prop := Claim7.holds Tryd.pinned (.plain (OpenSpec.ofChange fnParseEntityTagsReadsJoinedListSpec)) fnParseEntityTagsReadsJoinedListCard
end Rows
end Go.Proofs.Qxb6600694aDoor
