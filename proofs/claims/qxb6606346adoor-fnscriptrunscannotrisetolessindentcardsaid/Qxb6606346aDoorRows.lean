/-
  NARROWER THAN 'FOR EVERY INPUT', by the rows' own cells (each row's printed sentence says how): FnScriptIsAnEditScriptAtAnySize: laid · FnScriptRunsCannotRiseToLessIndent: laid.
  DERIVED. THE GIVEN ROWS OF THIS SEAT. 2 by the template 'for every input the law returns true; each argument reads behind the call as it read before'; 0 by the template 'total and deterministic' (their statements: Qxb6606346aDoorTotals.lean).
  GIVEN WITH THE SEED: the statements are not yours to turn. If you find one false, say at which input.
  Laid BY PROGRAM, IN A SANDBOX (cutbox-rows.mjs): the forced cells as the released guide's own fill.sh prints them over the translation 86f063462bbfcb78… (all of the seat's roots in one cut). By AI agents, Wed Nov 11 2026. No macro, syntax, notation, axiom, sorry.
-/
import Derived.Test.Qxb6606346aDoorChecked
import GoSem.PinnedTables
import GoSem.Claim
import GoSem.ClaimJoined
import GoSem.ClaimMapViews
import Derived.JoinedTies
import Derived.KernelRfl
namespace Go.Proofs.Qxb6606346aDoor
/- THE CELL 'sum', in the pinned program and in every row, IS THE sha256 OF THE DUMP (.gsa) THAT Qxb6606346aDoorProg.lean LOADS. Nothing in Lean hashes anything: it is a label: what it is worth is what the hold of that sum in a sandbox is worth. -/
noncomputable def Tryd.pinned : Pinned := { name := "qxb6606346adoor", sum := "86f063462bbfcb78460f71fbd958d81f2238293fa400faf496e3789b05b96bd2", checked := Tryd.checked }
namespace Rows
def none {H : Type} : Left H := { results := [], args := [] }

/- WHAT THE LISTED PACKAGE-LEVEL VARIABLES READ AS WHEN THE CALL BEGINS. Each datum BY PROGRAM (the guide's laid-datum.mjs) off the statement by which the dump's own 'gosem.cut.vars' lays the variable. In a bare row this is a premise. The card (Qxb6606346aDoorCards.lean) ties it to the program's text. -/
def laid_unicode_utf8_acceptRanges {H : Type} : DataW H := .agg [.agg [.lit (.int .u8 128), .lit (.int .u8 191)], .agg [.lit (.int .u8 160), .lit (.int .u8 191)], .agg [.lit (.int .u8 128), .lit (.int .u8 159)], .agg [.lit (.int .u8 144), .lit (.int .u8 191)], .agg [.lit (.int .u8 128), .lit (.int .u8 143)], .agg [.lit (.int .u8 0), .lit (.int .u8 0)], .agg [.lit (.int .u8 0), .lit (.int .u8 0)], .agg [.lit (.int .u8 0), .lit (.int .u8 0)], .agg [.lit (.int .u8 0), .lit (.int .u8 0)], .agg [.lit (.int .u8 0), .lit (.int .u8 0)], .agg [.lit (.int .u8 0), .lit (.int .u8 0)], .agg [.lit (.int .u8 0), .lit (.int .u8 0)], .agg [.lit (.int .u8 0), .lit (.int .u8 0)], .agg [.lit (.int .u8 0), .lit (.int .u8 0)], .agg [.lit (.int .u8 0), .lit (.int .u8 0)], .agg [.lit (.int .u8 0), .lit (.int .u8 0)]]
/-- One of Go's own tables, pinned by name: the form's constant. -/
def laid_unicode_utf8_first : DataW Unit := Go.Pinned.utf8First

/-- 'zzlaws_internal_textdiff_b1.FnScriptIsAnEditScriptAtAnySize': WHATEVER THE INPUT: true; the input reads as it did. -/
def fnScriptIsAnEditScriptAtAnySizeSpec : ChangeSpec := { name := "fnScriptIsAnEditScriptAtAnySize", fn := fun _ => fun
  | [d1, d2] => { results := [.lit (.bool true)], args := [d1, d2] }
  | _ => none }
def fnScriptIsAnEditScriptAtAnySizeRow : OpenClaim := { program := "qxb6606346adoor", sum := "86f063462bbfcb78460f71fbd958d81f2238293fa400faf496e3789b05b96bd2", func := "example.com/castwright/castwright/zzlaws_internal_textdiff_b1.FnScriptIsAnEditScriptAtAnySize", spec := "fnScriptIsAnEditScriptAtAnySize", inPlace := ["internal/bytealg.IndexByteString", "internal/bytealg.IndexString"], unfollowed := true, recurses := true, named := ["unicode/utf8.first", "unicode/utf8.acceptRanges", "internal/bytealg.MaxLen"], apart := false, laid := [("unicode/utf8.acceptRanges", laid_unicode_utf8_acceptRanges), ("unicode/utf8.first", laid_unicode_utf8_first)] }
def FnScriptIsAnEditScriptAtAnySizeSaid : Prop := fnScriptIsAnEditScriptAtAnySizeRow.holds Tryd.pinned (OpenSpec.ofChange fnScriptIsAnEditScriptAtAnySizeSpec)

/-- ITS FALSE NEIGHBOUR: 'it returns false'. Refute it at one input. -/
def fnScriptIsAnEditScriptAtAnySizeWrong : ChangeSpec := { name := "fnScriptIsAnEditScriptAtAnySize", fn := fun _ => fun
  | [d1, d2] => { results := [.lit (.bool false)], args := [d1, d2] }
  | _ => none }
def FnScriptIsAnEditScriptAtAnySizeWrongFalsely : Prop := fnScriptIsAnEditScriptAtAnySizeRow.holds Tryd.pinned (OpenSpec.ofChange fnScriptIsAnEditScriptAtAnySizeWrong)

/-- 'zzlaws_internal_textdiff_b1.FnScriptRunsCannotRiseToLessIndent': WHATEVER THE INPUT: true; the input reads as it did. -/
def fnScriptRunsCannotRiseToLessIndentSpec : ChangeSpec := { name := "fnScriptRunsCannotRiseToLessIndent", fn := fun _ => fun
  | [d1, d2] => { results := [.lit (.bool true)], args := [d1, d2] }
  | _ => none }
def fnScriptRunsCannotRiseToLessIndentRow : OpenClaim := { program := "qxb6606346adoor", sum := "86f063462bbfcb78460f71fbd958d81f2238293fa400faf496e3789b05b96bd2", func := "example.com/castwright/castwright/zzlaws_internal_textdiff_b1.FnScriptRunsCannotRiseToLessIndent", spec := "fnScriptRunsCannotRiseToLessIndent", inPlace := ["internal/bytealg.IndexByteString", "internal/bytealg.IndexString"], unfollowed := true, recurses := true, named := ["unicode/utf8.first", "unicode/utf8.acceptRanges", "internal/bytealg.MaxLen"], apart := false, laid := [("unicode/utf8.acceptRanges", laid_unicode_utf8_acceptRanges), ("unicode/utf8.first", laid_unicode_utf8_first)] }
def FnScriptRunsCannotRiseToLessIndentSaid : Prop := fnScriptRunsCannotRiseToLessIndentRow.holds Tryd.pinned (OpenSpec.ofChange fnScriptRunsCannotRiseToLessIndentSpec)

/-- ITS FALSE NEIGHBOUR: 'it returns false'. Refute it at one input. -/
def fnScriptRunsCannotRiseToLessIndentWrong : ChangeSpec := { name := "fnScriptRunsCannotRiseToLessIndent", fn := fun _ => fun
  | [d1, d2] => { results := [.lit (.bool false)], args := [d1, d2] }
  | _ => none }
def FnScriptRunsCannotRiseToLessIndentWrongFalsely : Prop := fnScriptRunsCannotRiseToLessIndentRow.holds Tryd.pinned (OpenSpec.ofChange fnScriptRunsCannotRiseToLessIndentWrong)

end Rows
end Go.Proofs.Qxb6606346aDoor
