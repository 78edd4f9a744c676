/-
  DERIVED. GIVEN WITH THE SEED: THE CARDS: each row of Qxb6600768aGreatDoorRows.lean that lists a variable, with what it lists TIED to the program's text (the seventh form; the later family's looks); each row that meets fmt, with fmt's text TOLD by the authors' own Lean function (tested against real Go, not proved from fmt's source: count such statements apart). THE CARD IS WHAT COUNTS. Prove the row's statement (the work); the ties are given (Qxb6600768aGreatDoorTie.lean); close each card by the builder's one call (the guide's Derived/Test/ToyasCard.lean, 'card_holds'). Laid BY PROGRAM, IN A SANDBOX (cutbox-door.mjs). By AI agents, Wed Nov 11 2026. No macro, syntax, notation, axiom, sorry.
-/
import Derived.Test.Qxb6600768aGreatDoorRows
import GoSem.ClaimSeven
namespace Go.Proofs.Qxb6600768aGreatDoor
namespace Rows

/-- THE TIED CARD OF 'zzlaws_internal_jsonvalue_b1.FnParseDecimalExactSpec'. -/
def fnParseDecimalExactSpecCard : Claim7 := { stood := { row := fnParseDecimalExactSpecRow, standIns := [], harness := (true, "74fd738b62b8b9cef6faffb799cdd3e26aedb1c9f9781f6ae1d64cb796bab747"), looks := true }, kinds := [], alts := [], laidByText := true, laidKinds := [.data, .data, .data, .data, .sentinel, .sentinel, .pinned, .pinned], laidTests := true, laidLooks := .later }
def FnParseDecimalExactSpecCardSaid : Prop := Claim7.holds Tryz.pinned (.plain (OpenSpec.ofChange fnParseDecimalExactSpecSpec)) fnParseDecimalExactSpecCard

/-- THE TIED CARD OF 'zzlaws_internal_jsonvalue_b1.FnParseDecimalExponentMovesPoint'. -/
def fnParseDecimalExponentMovesPointCard : Claim7 := { stood := { row := fnParseDecimalExponentMovesPointRow, standIns := [], harness := (true, "74fd738b62b8b9cef6faffb799cdd3e26aedb1c9f9781f6ae1d64cb796bab747"), looks := true }, kinds := [], alts := [], laidByText := true, laidKinds := [.data, .data, .data, .data, .sentinel, .sentinel, .pinned, .pinned], laidTests := true, laidLooks := .later }
def FnParseDecimalExponentMovesPointCardSaid : Prop := Claim7.holds Tryz.pinned (.plain (OpenSpec.ofChange fnParseDecimalExponentMovesPointSpec)) fnParseDecimalExponentMovesPointCard

/-- THE TIED CARD OF 'zzlaws_internal_jsonvalue_b1.FnNumberKeyExactSpec'. -/
def fnNumberKeyExactSpecCard : Claim7 := { stood := { row := fnNumberKeyExactSpecRow, standIns := [], harness := (true, "74fd738b62b8b9cef6faffb799cdd3e26aedb1c9f9781f6ae1d64cb796bab747"), looks := true }, kinds := [], alts := [], laidByText := true, laidKinds := [.data, .data, .data, .data, .sentinel, .sentinel, .pinned, .pinned], laidTests := true, laidLooks := .later }
def FnNumberKeyExactSpecCardSaid : Prop := Claim7.holds Tryz.pinned (.plain (OpenSpec.ofChange fnNumberKeyExactSpecSpec)) fnNumberKeyExactSpecCard
end Rows
end Go.Proofs.Qxb6600768aGreatDoor
