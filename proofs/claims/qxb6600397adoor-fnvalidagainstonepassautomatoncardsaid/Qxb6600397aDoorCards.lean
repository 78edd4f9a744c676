/-
  DERIVED. GIVEN WITH THE SEED: THE CARDS: each row of Qxb6600397aDoorRows.lean that lists a variable, with what it lists TIED to the program's text (the seventh form; the later family's looks); each row that meets fmt, with fmt's text TOLD by the authors' own Lean function (tested against real Go, not proved from fmt's source: count such statements apart). THE CARD IS WHAT COUNTS. Prove the row's statement (the work); the ties are given (Qxb6600397aDoorTie.lean); close each card by the builder's one call (the guide's Derived/Test/ToyasCard.lean, 'card_holds'). Laid BY PROGRAM, IN A SANDBOX (cutbox-door.mjs). By AI agents, Wed Nov 11 2026. No macro, syntax, notation, axiom, sorry.
-/
import Derived.Test.Qxb6600397aDoorRows
import GoSem.ClaimSeven
namespace Go.Proofs.Qxb6600397aDoor
namespace Rows

/-- THE TIED CARD OF 'zzlaws_internal_eventtype_b1.FnValidAgainstOnePassAutomaton'. -/
def fnValidAgainstOnePassAutomatonCard : Claim7 := { stood := { row := fnValidAgainstOnePassAutomatonRow, standIns := [], harness := (true, "4f27e32d7d1be5d2b335fb734d95c7ce5336e28e68527eef03c9bc3a76ec1344"), looks := false }, kinds := [], alts := [], laidByText := true, laidKinds := [.data, .pinned], laidTests := true, laidLooks := .later }
def FnValidAgainstOnePassAutomatonCardSaid : Prop := Claim7.holds Tryd.pinned (.plain (OpenSpec.ofChange fnValidAgainstOnePassAutomatonSpec)) fnValidAgainstOnePassAutomatonCard

/-- THE TIED CARD OF 'zzlaws_internal_eventtype_b1.FnValidOfJoinIsValidOfBothSides'. -/
def fnValidOfJoinIsValidOfBothSidesCard : Claim7 := { stood := { row := fnValidOfJoinIsValidOfBothSidesRow, standIns := [], harness := (true, "4f27e32d7d1be5d2b335fb734d95c7ce5336e28e68527eef03c9bc3a76ec1344"), looks := false }, kinds := [], alts := [], laidByText := true, laidKinds := [.data, .pinned], laidTests := true, laidLooks := .later }
def FnValidOfJoinIsValidOfBothSidesCardSaid : Prop := Claim7.holds Tryd.pinned (.plain (OpenSpec.ofChange fnValidOfJoinIsValidOfBothSidesSpec)) fnValidOfJoinIsValidOfBothSidesCard
end Rows
end Go.Proofs.Qxb6600397aDoor
