/-
  NARROWER THAN 'FOR EVERY INPUT', by the rows' own cells (each row's printed sentence says how): FnParseEntityTagsMatchesStateMachine: laid · FnParseEntityTagsReadsJoinedList: laid.
  DERIVED. THE GIVEN ROWS OF THIS SEAT. 2 by the template 'for every input the law returns true; each argument reads behind the call as it read before'; 0 by the template 'total and deterministic' (their statements: Qxb6600694aDoorTotals.lean).
  GIVEN WITH THE SEED: the statements are not yours to turn. If you find one false, say at which input.
  Laid BY PROGRAM, IN A SANDBOX (cutbox-rows.mjs): the forced cells as the released guide's own fill.sh prints them over the translation 902ce1d484f015f1… (all of the seat's roots in one cut). By AI agents, Wed Nov 11 2026. No macro, syntax, notation, axiom, sorry.
-/
import Derived.Test.Qxb6600694aDoorChecked
import GoSem.PinnedTables
import GoSem.Claim
import GoSem.ClaimJoined
import GoSem.ClaimMapViews
import Derived.JoinedTies
import Derived.KernelRfl
namespace Go.Proofs.Qxb6600694aDoor
/- THE CELL 'sum', in the pinned program and in every row, IS THE sha256 OF THE DUMP (.gsa) THAT Qxb6600694aDoorProg.lean LOADS. Nothing in Lean hashes anything: it is a label: what it is worth is what the hold of that sum in a sandbox is worth. -/
noncomputable def Tryd.pinned : Pinned := { name := "qxb6600694adoor", sum := "902ce1d484f015f13069d53ed5641dcc1f10fee626973adbc338dc5c207457e4", checked := Tryd.checked }
namespace Rows
def none {H : Type} : Left H := { results := [], args := [] }

/- WHAT THE LISTED PACKAGE-LEVEL VARIABLES READ AS WHEN THE CALL BEGINS. Each datum BY PROGRAM (the guide's laid-datum.mjs) off the statement by which the dump's own 'gosem.cut.vars' lays the variable. In a bare row this is a premise. The card (Qxb6600694aDoorCards.lean) ties it to the program's text. -/
def laid_unicode_utf8_acceptRanges {H : Type} : DataW H := .agg [.agg [.lit (.int .u8 128), .lit (.int .u8 191)], .agg [.lit (.int .u8 160), .lit (.int .u8 191)], .agg [.lit (.int .u8 128), .lit (.int .u8 159)], .agg [.lit (.int .u8 144), .lit (.int .u8 191)], .agg [.lit (.int .u8 128), .lit (.int .u8 143)], .agg [.lit (.int .u8 0), .lit (.int .u8 0)], .agg [.lit (.int .u8 0), .lit (.int .u8 0)], .agg [.lit (.int .u8 0), .lit (.int .u8 0)], .agg [.lit (.int .u8 0), .lit (.int .u8 0)], .agg [.lit (.int .u8 0), .lit (.int .u8 0)], .agg [.lit (.int .u8 0), .lit (.int .u8 0)], .agg [.lit (.int .u8 0), .lit (.int .u8 0)], .agg [.lit (.int .u8 0), .lit (.int .u8 0)], .agg [.lit (.int .u8 0), .lit (.int .u8 0)], .agg [.lit (.int .u8 0), .lit (.int .u8 0)], .agg [.lit (.int .u8 0), .lit (.int .u8 0)]]
/-- One of Go's own tables, pinned by name: the form's constant. -/
def laid_unicode_utf8_first : DataW Unit := Go.Pinned.utf8First

/-- 'zzlaws_api_b1.FnParseEntityTagsMatchesStateMachine': WHATEVER THE INPUT: true; the input reads as it did. -/
def fnParseEntityTagsMatchesStateMachineSpec : ChangeSpec := { name := "fnParseEntityTagsMatchesStateMachine", fn := fun _ => fun
  | [d] => { results := [.lit (.bool true)], args := [d] }
  | _ => none }
def fnParseEntityTagsMatchesStateMachineRow : OpenClaim := { program := "qxb6600694adoor", sum := "902ce1d484f015f13069d53ed5641dcc1f10fee626973adbc338dc5c207457e4", func := "example.com/stateward/stateward/zzlaws_api_b1.FnParseEntityTagsMatchesStateMachine", spec := "fnParseEntityTagsMatchesStateMachine", inPlace := ["internal/bytealg.IndexByteString", "internal/bytealg.IndexString"], named := ["unicode/utf8.first", "unicode/utf8.acceptRanges", "internal/bytealg.MaxLen"], apart := false, laid := [("unicode/utf8.acceptRanges", laid_unicode_utf8_acceptRanges), ("unicode/utf8.first", laid_unicode_utf8_first)] }
def FnParseEntityTagsMatchesStateMachineSaid : Prop := fnParseEntityTagsMatchesStateMachineRow.holds Tryd.pinned (OpenSpec.ofChange fnParseEntityTagsMatchesStateMachineSpec)

/-- ITS FALSE NEIGHBOUR: 'it returns false'. Refute it at one input. -/
def fnParseEntityTagsMatchesStateMachineWrong : ChangeSpec := { name := "fnParseEntityTagsMatchesStateMachine", fn := fun _ => fun
  | [d] => { results := [.lit (.bool false)], args := [d] }
  | _ => none }
def FnParseEntityTagsMatchesStateMachineWrongFalsely : Prop := fnParseEntityTagsMatchesStateMachineRow.holds Tryd.pinned (OpenSpec.ofChange fnParseEntityTagsMatchesStateMachineWrong)

/-- 'zzlaws_api_b1.FnParseEntityTagsReadsJoinedList': WHATEVER THE INPUT: true; the input reads as it did. -/
def fnParseEntityTagsReadsJoinedListSpec : ChangeSpec := { name := "fnParseEntityTagsReadsJoinedList", fn := fun _ => fun
  | [d1, d2, d3, d4, d5] => { results := [.lit (.bool true)], args := [d1, d2, d3, d4, d5] }
  | _ => none }
def fnParseEntityTagsReadsJoinedListRow : OpenClaim := { program := "qxb6600694adoor", sum := "902ce1d484f015f13069d53ed5641dcc1f10fee626973adbc338dc5c207457e4", func := "example.com/stateward/stateward/zzlaws_api_b1.FnParseEntityTagsReadsJoinedList", spec := "fnParseEntityTagsReadsJoinedList", inPlace := ["internal/bytealg.IndexByteString", "internal/bytealg.IndexString"], named := ["unicode/utf8.first", "unicode/utf8.acceptRanges", "internal/bytealg.MaxLen"], apart := false, laid := [("unicode/utf8.acceptRanges", laid_unicode_utf8_acceptRanges), ("unicode/utf8.first", laid_unicode_utf8_first)] }
def FnParseEntityTagsReadsJoinedListSaid : Prop := fnParseEntityTagsReadsJoinedListRow.holds Tryd.pinned (OpenSpec.ofChange fnParseEntityTagsReadsJoinedListSpec)

/-- ITS FALSE NEIGHBOUR: 'it returns false'. Refute it at one input. -/
def fnParseEntityTagsReadsJoinedListWrong : ChangeSpec := { name := "fnParseEntityTagsReadsJoinedList", fn := fun _ => fun
  | [d1, d2, d3, d4, d5] => { results := [.lit (.bool false)], args := [d1, d2, d3, d4, d5] }
  | _ => none }
def FnParseEntityTagsReadsJoinedListWrongFalsely : Prop := fnParseEntityTagsReadsJoinedListRow.holds Tryd.pinned (OpenSpec.ofChange fnParseEntityTagsReadsJoinedListWrong)

end Rows
end Go.Proofs.Qxb6600694aDoor
