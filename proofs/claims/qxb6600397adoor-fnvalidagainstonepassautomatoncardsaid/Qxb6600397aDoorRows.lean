/-
  NARROWER THAN 'FOR EVERY INPUT', by the rows' own cells (each row's printed sentence says how): FnValidAgainstOnePassAutomaton: laid · FnValidOfJoinIsValidOfBothSides: laid.
  DERIVED. THE GIVEN ROWS OF THIS SEAT. 2 by the template 'for every input the law returns true; each argument reads behind the call as it read before'; 0 by the template 'total and deterministic' (their statements: Qxb6600397aDoorTotals.lean).
  GIVEN WITH THE SEED: the statements are not yours to turn. If you find one false, say at which input.
  Laid BY PROGRAM, IN A SANDBOX (cutbox-rows.mjs): the forced cells as the released guide's own fill.sh prints them over the translation fc3887097993e7a4… (all of the seat's roots in one cut). By AI agents, Wed Nov 11 2026. No macro, syntax, notation, axiom, sorry.
-/
import Derived.Test.Qxb6600397aDoorChecked
import GoSem.PinnedTables
import GoSem.Claim
import GoSem.ClaimJoined
import GoSem.ClaimMapViews
import Derived.JoinedTies
import Derived.KernelRfl
namespace Go.Proofs.Qxb6600397aDoor
/- THE CELL 'sum', in the pinned program and in every row, IS THE sha256 OF THE DUMP (.gsa) THAT Qxb6600397aDoorProg.lean LOADS. Nothing in Lean hashes anything: it is a label: what it is worth is what the hold of that sum in a sandbox is worth. -/
noncomputable def Tryd.pinned : Pinned := { name := "qxb6600397adoor", sum := "fc3887097993e7a45c18f46ed31f3d842585bcbb71072bb15d604c55699b8912", checked := Tryd.checked }
namespace Rows
def none {H : Type} : Left H := { results := [], args := [] }

/- WHAT THE LISTED PACKAGE-LEVEL VARIABLES READ AS WHEN THE CALL BEGINS. Each datum BY PROGRAM (the guide's laid-datum.mjs) off the statement by which the dump's own 'gosem.cut.vars' lays the variable. In a bare row this is a premise. The card (Qxb6600397aDoorCards.lean) ties it to the program's text. -/
def laid_unicode_utf8_acceptRanges {H : Type} : DataW H := .agg [.agg [.lit (.int .u8 128), .lit (.int .u8 191)], .agg [.lit (.int .u8 160), .lit (.int .u8 191)], .agg [.lit (.int .u8 128), .lit (.int .u8 159)], .agg [.lit (.int .u8 144), .lit (.int .u8 191)], .agg [.lit (.int .u8 128), .lit (.int .u8 143)], .agg [.lit (.int .u8 0), .lit (.int .u8 0)], .agg [.lit (.int .u8 0), .lit (.int .u8 0)], .agg [.lit (.int .u8 0), .lit (.int .u8 0)], .agg [.lit (.int .u8 0), .lit (.int .u8 0)], .agg [.lit (.int .u8 0), .lit (.int .u8 0)], .agg [.lit (.int .u8 0), .lit (.int .u8 0)], .agg [.lit (.int .u8 0), .lit (.int .u8 0)], .agg [.lit (.int .u8 0), .lit (.int .u8 0)], .agg [.lit (.int .u8 0), .lit (.int .u8 0)], .agg [.lit (.int .u8 0), .lit (.int .u8 0)], .agg [.lit (.int .u8 0), .lit (.int .u8 0)]]
/-- One of Go's own tables, pinned by name: the form's constant. -/
def laid_unicode_utf8_first : DataW Unit := Go.Pinned.utf8First

/-- 'zzlaws_internal_eventtype_b1.FnValidAgainstOnePassAutomaton': WHATEVER THE INPUT: true; the input reads as it did. -/
def fnValidAgainstOnePassAutomatonSpec : ChangeSpec := { name := "fnValidAgainstOnePassAutomaton", fn := fun _ => fun
  | [d] => { results := [.lit (.bool true)], args := [d] }
  | _ => none }
def fnValidAgainstOnePassAutomatonRow : OpenClaim := { program := "qxb6600397adoor", sum := "fc3887097993e7a45c18f46ed31f3d842585bcbb71072bb15d604c55699b8912", func := "example.com/hookwright/hookwright/zzlaws_internal_eventtype_b1.FnValidAgainstOnePassAutomaton", spec := "fnValidAgainstOnePassAutomaton", inPlace := ["internal/bytealg.CountString", "internal/bytealg.IndexByteString", "internal/bytealg.IndexString"], named := ["unicode/utf8.first", "unicode/utf8.acceptRanges", "internal/bytealg.MaxLen"], apart := false, laid := [("unicode/utf8.acceptRanges", laid_unicode_utf8_acceptRanges), ("unicode/utf8.first", laid_unicode_utf8_first)] }
def FnValidAgainstOnePassAutomatonSaid : Prop := fnValidAgainstOnePassAutomatonRow.holds Tryd.pinned (OpenSpec.ofChange fnValidAgainstOnePassAutomatonSpec)

/-- ITS FALSE NEIGHBOUR: 'it returns false'. Refute it at one input. -/
def fnValidAgainstOnePassAutomatonWrong : ChangeSpec := { name := "fnValidAgainstOnePassAutomaton", fn := fun _ => fun
  | [d] => { results := [.lit (.bool false)], args := [d] }
  | _ => none }
def FnValidAgainstOnePassAutomatonWrongFalsely : Prop := fnValidAgainstOnePassAutomatonRow.holds Tryd.pinned (OpenSpec.ofChange fnValidAgainstOnePassAutomatonWrong)

/-- 'zzlaws_internal_eventtype_b1.FnValidOfJoinIsValidOfBothSides': WHATEVER THE INPUT: true; the input reads as it did. -/
def fnValidOfJoinIsValidOfBothSidesSpec : ChangeSpec := { name := "fnValidOfJoinIsValidOfBothSides", fn := fun _ => fun
  | [d1, d2] => { results := [.lit (.bool true)], args := [d1, d2] }
  | _ => none }
def fnValidOfJoinIsValidOfBothSidesRow : OpenClaim := { program := "qxb6600397adoor", sum := "fc3887097993e7a45c18f46ed31f3d842585bcbb71072bb15d604c55699b8912", func := "example.com/hookwright/hookwright/zzlaws_internal_eventtype_b1.FnValidOfJoinIsValidOfBothSides", spec := "fnValidOfJoinIsValidOfBothSides", inPlace := ["internal/bytealg.CountString", "internal/bytealg.IndexByteString", "internal/bytealg.IndexString"], named := ["unicode/utf8.first", "unicode/utf8.acceptRanges", "internal/bytealg.MaxLen"], apart := false, laid := [("unicode/utf8.acceptRanges", laid_unicode_utf8_acceptRanges), ("unicode/utf8.first", laid_unicode_utf8_first)] }
def FnValidOfJoinIsValidOfBothSidesSaid : Prop := fnValidOfJoinIsValidOfBothSidesRow.holds Tryd.pinned (OpenSpec.ofChange fnValidOfJoinIsValidOfBothSidesSpec)

/-- ITS FALSE NEIGHBOUR: 'it returns false'. Refute it at one input. -/
def fnValidOfJoinIsValidOfBothSidesWrong : ChangeSpec := { name := "fnValidOfJoinIsValidOfBothSides", fn := fun _ => fun
  | [d1, d2] => { results := [.lit (.bool false)], args := [d1, d2] }
  | _ => none }
def FnValidOfJoinIsValidOfBothSidesWrongFalsely : Prop := fnValidOfJoinIsValidOfBothSidesRow.holds Tryd.pinned (OpenSpec.ofChange fnValidOfJoinIsValidOfBothSidesWrong)

end Rows
end Go.Proofs.Qxb6600397aDoor
