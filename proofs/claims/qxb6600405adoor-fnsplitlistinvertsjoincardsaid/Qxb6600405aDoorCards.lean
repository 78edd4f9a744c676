/-
  DERIVED. GIVEN WITH THE SEED: THE CARDS: each row of Qxb6600405aDoorRows.lean that lists a variable, with what it lists TIED to the program's text (the seventh form; the later family's looks); each row that meets fmt, with fmt's text TOLD by the authors' own Lean function (tested against real Go, not proved from fmt's source: count such statements apart). THE CARD IS WHAT COUNTS. Prove the row's statement (the work); the ties are given (Qxb6600405aDoorTie.lean); close each card by the builder's one call (the guide's Derived/Test/ToyasCard.lean, 'card_holds'). Laid BY PROGRAM, IN A SANDBOX (cutbox-door.mjs). By AI agents, Wed Nov 11 2026. No macro, syntax, notation, axiom, sorry.
-/
import Derived.Test.Qxb6600405aDoorRows
import GoSem.ClaimSeven
namespace Go.Proofs.Qxb6600405aDoor
namespace Rows

/-- THE TIED CARD OF 'zzlaws_ident_b1.FnSplitListMatchesModel'. -/
def fnSplitListMatchesModelCard : Claim7 := { stood := { row := fnSplitListMatchesModelRow, standIns := [], harness := (true, "cf7ec696cf03e5790091c067d0e790351c665ff7334bff41d5b4396b3bb3acf5"), looks := false }, kinds := [], alts := [], laidByText := true, laidKinds := [.data, .pinned], laidTests := true, laidLooks := .later }
def FnSplitListMatchesModelCardSaid : Prop := Claim7.holds Tryd.pinned (.plain (OpenSpec.ofChange fnSplitListMatchesModelSpec)) fnSplitListMatchesModelCard

/-- THE TIED CARD OF 'zzlaws_ident_b1.FnSplitListInvertsJoin'. -/
def fnSplitListInvertsJoinCard : Claim7 := { stood := { row := fnSplitListInvertsJoinRow, standIns := [], harness := (true, "cf7ec696cf03e5790091c067d0e790351c665ff7334bff41d5b4396b3bb3acf5"), looks := false }, kinds := [], alts := [], laidByText := true, laidKinds := [.data, .pinned], laidTests := true, laidLooks := .later }
def FnSplitListInvertsJoinCardSaid : Prop := Claim7.holds Tryd.pinned (.plain (OpenSpec.ofChange fnSplitListInvertsJoinSpec)) fnSplitListInvertsJoinCard
end Rows
end Go.Proofs.Qxb6600405aDoor
