/-
  DERIVED. GIVEN WITH THE SEED: THE CARDS: each row of Qxb6606346aDoorRows.lean that lists a variable, with what it lists TIED to the program's text (the seventh form; the later family's looks); each row that meets fmt, with fmt's text TOLD by the authors' own Lean function (tested against real Go, not proved from fmt's source: count such statements apart). THE CARD IS WHAT COUNTS. Prove the row's statement (the work); the ties are given (Qxb6606346aDoorTie.lean); close each card by the builder's one call (the guide's Derived/Test/ToyasCard.lean, 'card_holds'). Laid BY PROGRAM, IN A SANDBOX (cutbox-door.mjs). By AI agents, Wed Nov 11 2026. No macro, syntax, notation, axiom, sorry.
-/
import Derived.Test.Qxb6606346aDoorRows
import GoSem.ClaimSeven
namespace Go.Proofs.Qxb6606346aDoor
namespace Rows

/-- THE TIED CARD OF 'zzlaws_internal_textdiff_b1.FnScriptIsAnEditScriptAtAnySize'. -/
def fnScriptIsAnEditScriptAtAnySizeCard : Claim7 := { stood := { row := fnScriptIsAnEditScriptAtAnySizeRow, standIns := [], harness := (true, "2b77b96e107eec287a6d89b251cceaf09f46bafcaf048eca1657264527ac91d5"), looks := false }, kinds := [], alts := [], laidByText := true, laidKinds := [.data, .pinned], laidTests := true, laidLooks := .later }
def FnScriptIsAnEditScriptAtAnySizeCardSaid : Prop := Claim7.holds Tryd.pinned (.plain (OpenSpec.ofChange fnScriptIsAnEditScriptAtAnySizeSpec)) fnScriptIsAnEditScriptAtAnySizeCard

/-- THE TIED CARD OF 'zzlaws_internal_textdiff_b1.FnScriptRunsCannotRiseToLessIndent'. -/
def fnScriptRunsCannotRiseToLessIndentCard : Claim7 := { stood := { row := fnScriptRunsCannotRiseToLessIndentRow, standIns := [], harness := (true, "2b77b96e107eec287a6d89b251cceaf09f46bafcaf048eca1657264527ac91d5"), looks := false }, kinds := [], alts := [], laidByText := true, laidKinds := [.data, .pinned], laidTests := true, laidLooks := .later }
def FnScriptRunsCannotRiseToLessIndentCardSaid : Prop := Claim7.holds Tryd.pinned (.plain (OpenSpec.ofChange fnScriptRunsCannotRiseToLessIndentSpec)) fnScriptRunsCannotRiseToLessIndentCard
end Rows
end Go.Proofs.Qxb6606346aDoor
