/-
  NARROWER THAN 'FOR EVERY INPUT', by the rows' own cells (each row's printed sentence says how): FnSplitListMatchesModel: laid · FnSplitListInvertsJoin: laid.
  DERIVED. THE GIVEN ROWS OF THIS SEAT. 2 by the template 'for every input the law returns true; each argument reads behind the call as it read before'; 0 by the template 'total and deterministic' (their statements: Qxb6600405aDoorTotals.lean).
  GIVEN WITH THE SEED: the statements are not yours to turn. If you find one false, say at which input.
  Laid BY PROGRAM, IN A SANDBOX (cutbox-rows.mjs): the forced cells as the released guide's own fill.sh prints them over the translation b42460fcb8785436… (all of the seat's roots in one cut). By AI agents, Wed Nov 11 2026. No macro, syntax, notation, axiom, sorry.
-/
import Derived.Test.Qxb6600405aDoorChecked
import GoSem.PinnedTables
import GoSem.Claim
import GoSem.ClaimJoined
import GoSem.ClaimMapViews
import Derived.JoinedTies
import Derived.KernelRfl
namespace Go.Proofs.Qxb6600405aDoor
/- THE CELL 'sum', in the pinned program and in every row, IS THE sha256 OF THE DUMP (.gsa) THAT Qxb6600405aDoorProg.lean LOADS. Nothing in Lean hashes anything: it is a label: what it is worth is what the hold of that sum in a sandbox is worth. -/
noncomputable def Tryd.pinned : Pinned := { name := "qxb6600405adoor", sum := "b42460fcb8785436d4f4d32d7cbda029d50b57108383dae43647104ac20e7b5c", checked := Tryd.checked }
namespace Rows
def none {H : Type} : Left H := { results := [], args := [] }

/- WHAT THE LISTED PACKAGE-LEVEL VARIABLES READ AS WHEN THE CALL BEGINS. Each datum BY PROGRAM (the guide's laid-datum.mjs) off the statement by which the dump's own 'gosem.cut.vars' lays the variable. In a bare row this is a premise. The card (Qxb6600405aDoorCards.lean) ties it to the program's text. -/
def laid_unicode_utf8_acceptRanges {H : Type} : DataW H := .agg [.agg [.lit (.int .u8 128), .lit (.int .u8 191)], .agg [.lit (.int .u8 160), .lit (.int .u8 191)], .agg [.lit (.int .u8 128), .lit (.int .u8 159)], .agg [.lit (.int .u8 144), .lit (.int .u8 191)], .agg [.lit (.int .u8 128), .lit (.int .u8 143)], .agg [.lit (.int .u8 0), .lit (.int .u8 0)], .agg [.lit (.int .u8 0), .lit (.int .u8 0)], .agg [.lit (.int .u8 0), .lit (.int .u8 0)], .agg [.lit (.int .u8 0), .lit (.int .u8 0)], .agg [.lit (.int .u8 0), .lit (.int .u8 0)], .agg [.lit (.int .u8 0), .lit (.int .u8 0)], .agg [.lit (.int .u8 0), .lit (.int .u8 0)], .agg [.lit (.int .u8 0), .lit (.int .u8 0)], .agg [.lit (.int .u8 0), .lit (.int .u8 0)], .agg [.lit (.int .u8 0), .lit (.int .u8 0)], .agg [.lit (.int .u8 0), .lit (.int .u8 0)]]
/-- One of Go's own tables, pinned by name: the form's constant. -/
def laid_unicode_utf8_first : DataW Unit := Go.Pinned.utf8First

/-- 'zzlaws_ident_b1.FnSplitListMatchesModel': WHATEVER THE INPUT: true; the input reads as it did. -/
def fnSplitListMatchesModelSpec : ChangeSpec := { name := "fnSplitListMatchesModel", fn := fun _ => fun
  | [d] => { results := [.lit (.bool true)], args := [d] }
  | _ => none }
def fnSplitListMatchesModelRow : OpenClaim := { program := "qxb6600405adoor", sum := "b42460fcb8785436d4f4d32d7cbda029d50b57108383dae43647104ac20e7b5c", func := "example.com/signalreach/signalreach/zzlaws_ident_b1.FnSplitListMatchesModel", spec := "fnSplitListMatchesModel", inPlace := ["internal/bytealg.CountString", "internal/bytealg.IndexByteString", "internal/bytealg.IndexString"], named := ["unicode/utf8.first", "unicode/utf8.acceptRanges", "internal/bytealg.MaxLen"], apart := false, laid := [("unicode/utf8.acceptRanges", laid_unicode_utf8_acceptRanges), ("unicode/utf8.first", laid_unicode_utf8_first)] }
def FnSplitListMatchesModelSaid : Prop := fnSplitListMatchesModelRow.holds Tryd.pinned (OpenSpec.ofChange fnSplitListMatchesModelSpec)

/-- ITS FALSE NEIGHBOUR: 'it returns false'. Refute it at one input. -/
def fnSplitListMatchesModelWrong : ChangeSpec := { name := "fnSplitListMatchesModel", fn := fun _ => fun
  | [d] => { results := [.lit (.bool false)], args := [d] }
  | _ => none }
def FnSplitListMatchesModelWrongFalsely : Prop := fnSplitListMatchesModelRow.holds Tryd.pinned (OpenSpec.ofChange fnSplitListMatchesModelWrong)

/-- 'zzlaws_ident_b1.FnSplitListInvertsJoin': WHATEVER THE INPUT: true; the input reads as it did. -/
def fnSplitListInvertsJoinSpec : ChangeSpec := { name := "fnSplitListInvertsJoin", fn := fun _ => fun
  | [d] => { results := [.lit (.bool true)], args := [d] }
  | _ => none }
def fnSplitListInvertsJoinRow : OpenClaim := { program := "qxb6600405adoor", sum := "b42460fcb8785436d4f4d32d7cbda029d50b57108383dae43647104ac20e7b5c", func := "example.com/signalreach/signalreach/zzlaws_ident_b1.FnSplitListInvertsJoin", spec := "fnSplitListInvertsJoin", inPlace := ["internal/bytealg.IndexByteString", "internal/bytealg.CountString", "internal/bytealg.IndexString"], named := ["unicode/utf8.first", "unicode/utf8.acceptRanges", "internal/bytealg.MaxLen"], apart := false, laid := [("unicode/utf8.acceptRanges", laid_unicode_utf8_acceptRanges), ("unicode/utf8.first", laid_unicode_utf8_first)] }
def FnSplitListInvertsJoinSaid : Prop := fnSplitListInvertsJoinRow.holds Tryd.pinned (OpenSpec.ofChange fnSplitListInvertsJoinSpec)

/-- ITS FALSE NEIGHBOUR: 'it returns false'. Refute it at one input. -/
def fnSplitListInvertsJoinWrong : ChangeSpec := { name := "fnSplitListInvertsJoin", fn := fun _ => fun
  | [d] => { results := [.lit (.bool false)], args := [d] }
  | _ => none }
def FnSplitListInvertsJoinWrongFalsely : Prop := fnSplitListInvertsJoinRow.holds Tryd.pinned (OpenSpec.ofChange fnSplitListInvertsJoinWrong)

end Rows
end Go.Proofs.Qxb6600405aDoor
