/-
  NARROWER THAN 'FOR EVERY INPUT', by the rows' own cells (each row's printed sentence says how): FnParseChunkSizeMatchesPositionalValue: laid · FnParseChunkSizeRoundTripsHex: laid.
  DERIVED. THE GIVEN ROWS OF THIS SEAT. 2 by the template 'for every input the law returns true; each argument reads behind the call as it read before'; 0 by the template 'total and deterministic' (their statements: Qxb6605477aDoorTotals.lean).
  GIVEN WITH THE SEED: the statements are not yours to turn. If you find one false, say at which input.
  Laid BY PROGRAM, IN A SANDBOX (cutbox-rows.mjs): the forced cells as the released guide's own fill.sh prints them over the translation 423cc963c3a32eae… (all of the seat's roots in one cut). By AI agents, Wed Nov 11 2026. No macro, syntax, notation, axiom, sorry.
-/
import Derived.Test.Qxb6605477aDoorChecked
import GoSem.PinnedTables
import GoSem.Claim
import GoSem.ClaimJoined
import GoSem.ClaimMapViews
import Derived.JoinedTies
import Derived.KernelRfl
namespace Go.Proofs.Qxb6605477aDoor
/- THE CELL 'sum', in the pinned program and in every row, IS THE sha256 OF THE DUMP (.gsa) THAT Qxb6605477aDoorProg.lean LOADS. Nothing in Lean hashes anything: it is a label: what it is worth is what the hold of that sum in a sandbox is worth. -/
noncomputable def Tryd.pinned : Pinned := { name := "qxb6605477adoor", sum := "423cc963c3a32eae76bc356d76f6e7f7080da749ba773ca8e3a36a913886816b", checked := Tryd.checked }
namespace Rows
def none {H : Type} : Left H := { results := [], args := [] }

/- WHAT THE LISTED PACKAGE-LEVEL VARIABLES READ AS WHEN THE CALL BEGINS. Each datum BY PROGRAM (the guide's laid-datum.mjs) off the statement by which the dump's own 'gosem.cut.vars' lays the variable. In a bare row this is a premise. The card (Qxb6605477aDoorCards.lean) ties it to the program's text. -/
def laid_unicode_utf8_acceptRanges {H : Type} : DataW H := .agg [.agg [.lit (.int .u8 128), .lit (.int .u8 191)], .agg [.lit (.int .u8 160), .lit (.int .u8 191)], .agg [.lit (.int .u8 128), .lit (.int .u8 159)], .agg [.lit (.int .u8 144), .lit (.int .u8 191)], .agg [.lit (.int .u8 128), .lit (.int .u8 143)], .agg [.lit (.int .u8 0), .lit (.int .u8 0)], .agg [.lit (.int .u8 0), .lit (.int .u8 0)], .agg [.lit (.int .u8 0), .lit (.int .u8 0)], .agg [.lit (.int .u8 0), .lit (.int .u8 0)], .agg [.lit (.int .u8 0), .lit (.int .u8 0)], .agg [.lit (.int .u8 0), .lit (.int .u8 0)], .agg [.lit (.int .u8 0), .lit (.int .u8 0)], .agg [.lit (.int .u8 0), .lit (.int .u8 0)], .agg [.lit (.int .u8 0), .lit (.int .u8 0)], .agg [.lit (.int .u8 0), .lit (.int .u8 0)], .agg [.lit (.int .u8 0), .lit (.int .u8 0)]]
/-- One of Go's own tables, pinned by name: the form's constant. -/
def laid_unicode_utf8_first : DataW Unit := Go.Pinned.utf8First

/-- 'zzlaws_http1_b1.FnParseChunkSizeMatchesPositionalValue': WHATEVER THE INPUT: true; the input reads as it did. -/
def fnParseChunkSizeMatchesPositionalValueSpec : ChangeSpec := { name := "fnParseChunkSizeMatchesPositionalValue", fn := fun _ => fun
  | [d] => { results := [.lit (.bool true)], args := [d] }
  | _ => none }
def fnParseChunkSizeMatchesPositionalValueRow : OpenClaim := { program := "qxb6605477adoor", sum := "423cc963c3a32eae76bc356d76f6e7f7080da749ba773ca8e3a36a913886816b", func := "example.com/halfopen/halfopen/zzlaws_http1_b1.FnParseChunkSizeMatchesPositionalValue", spec := "fnParseChunkSizeMatchesPositionalValue", inPlace := ["internal/bytealg.IndexByte", "internal/bytealg.Index"], named := ["internal/bytealg.MaxLen", "unicode/utf8.first", "unicode/utf8.acceptRanges"], apart := false, laid := [("unicode/utf8.acceptRanges", laid_unicode_utf8_acceptRanges), ("unicode/utf8.first", laid_unicode_utf8_first)] }
def FnParseChunkSizeMatchesPositionalValueSaid : Prop := fnParseChunkSizeMatchesPositionalValueRow.holds Tryd.pinned (OpenSpec.ofChange fnParseChunkSizeMatchesPositionalValueSpec)

/-- ITS FALSE NEIGHBOUR: 'it returns false'. Refute it at one input. -/
def fnParseChunkSizeMatchesPositionalValueWrong : ChangeSpec := { name := "fnParseChunkSizeMatchesPositionalValue", fn := fun _ => fun
  | [d] => { results := [.lit (.bool false)], args := [d] }
  | _ => none }
def FnParseChunkSizeMatchesPositionalValueWrongFalsely : Prop := fnParseChunkSizeMatchesPositionalValueRow.holds Tryd.pinned (OpenSpec.ofChange fnParseChunkSizeMatchesPositionalValueWrong)

/-- 'zzlaws_http1_b1.FnParseChunkSizeRoundTripsHex': WHATEVER THE INPUT: true; the input reads as it did. -/
def fnParseChunkSizeRoundTripsHexSpec : ChangeSpec := { name := "fnParseChunkSizeRoundTripsHex", fn := fun _ => fun
  | [d1, d2, d3, d4, d5, d6, d7, d8] => { results := [.lit (.bool true)], args := [d1, d2, d3, d4, d5, d6, d7, d8] }
  | _ => none }
def fnParseChunkSizeRoundTripsHexRow : OpenClaim := { program := "qxb6605477adoor", sum := "423cc963c3a32eae76bc356d76f6e7f7080da749ba773ca8e3a36a913886816b", func := "example.com/halfopen/halfopen/zzlaws_http1_b1.FnParseChunkSizeRoundTripsHex", spec := "fnParseChunkSizeRoundTripsHex", inPlace := ["internal/bytealg.IndexByte", "internal/bytealg.Index"], named := ["internal/bytealg.MaxLen", "unicode/utf8.first", "unicode/utf8.acceptRanges"], apart := false, laid := [("unicode/utf8.acceptRanges", laid_unicode_utf8_acceptRanges), ("unicode/utf8.first", laid_unicode_utf8_first)] }
def FnParseChunkSizeRoundTripsHexSaid : Prop := fnParseChunkSizeRoundTripsHexRow.holds Tryd.pinned (OpenSpec.ofChange fnParseChunkSizeRoundTripsHexSpec)

/-- ITS FALSE NEIGHBOUR: 'it returns false'. Refute it at one input. -/
def fnParseChunkSizeRoundTripsHexWrong : ChangeSpec := { name := "fnParseChunkSizeRoundTripsHex", fn := fun _ => fun
  | [d1, d2, d3, d4, d5, d6, d7, d8] => { results := [.lit (.bool false)], args := [d1, d2, d3, d4, d5, d6, d7, d8] }
  | _ => none }
def FnParseChunkSizeRoundTripsHexWrongFalsely : Prop := fnParseChunkSizeRoundTripsHexRow.holds Tryd.pinned (OpenSpec.ofChange fnParseChunkSizeRoundTripsHexWrong)

end Rows
end Go.Proofs.Qxb6605477aDoor
