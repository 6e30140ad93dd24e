/-
  DERIVED. GIVEN WITH THE SEED: THE CARDS: each row of Qxb6605477aDoorRows.lean that lists a variable, with what it lists TIED to the program's text (the seventh form; the later family's looks); each row that meets fmt, with fmt's text TOLD by the authors' own Lean function (tested against real Go, not proved from fmt's source: count such statements apart). THE CARD IS WHAT COUNTS. Prove the row's statement (the work); the ties are given (Qxb6605477aDoorTie.lean); close each card by the builder's one call (the guide's Derived/Test/ToyasCard.lean, 'card_holds'). Laid BY PROGRAM, IN A SANDBOX (cutbox-door.mjs). By AI agents, Wed Nov 11 2026. No macro, syntax, notation, axiom, sorry.
-/
import Derived.Test.Qxb6605477aDoorRows
import GoSem.ClaimSeven
namespace Go.Proofs.Qxb6605477aDoor
namespace Rows

/-- THE TIED CARD OF 'zzlaws_http1_b1.FnParseChunkSizeMatchesPositionalValue'. -/
def fnParseChunkSizeMatchesPositionalValueCard : Claim7 := { stood := { row := fnParseChunkSizeMatchesPositionalValueRow, standIns := [], harness := (true, "5d253bfcd82ecbd886def9f1848ca22528404ed110a50b993f9dc386c98ccb50"), looks := false }, kinds := [], alts := [], laidByText := true, laidKinds := [.data, .pinned], laidTests := true, laidLooks := .later }
def FnParseChunkSizeMatchesPositionalValueCardSaid : Prop := Claim7.holds Tryd.pinned (.plain (OpenSpec.ofChange fnParseChunkSizeMatchesPositionalValueSpec)) fnParseChunkSizeMatchesPositionalValueCard

/-- THE TIED CARD OF 'zzlaws_http1_b1.FnParseChunkSizeRoundTripsHex'. -/
def fnParseChunkSizeRoundTripsHexCard : Claim7 := { stood := { row := fnParseChunkSizeRoundTripsHexRow, standIns := [], harness := (true, "5d253bfcd82ecbd886def9f1848ca22528404ed110a50b993f9dc386c98ccb50"), looks := false }, kinds := [], alts := [], laidByText := true, laidKinds := [.data, .pinned], laidTests := true, laidLooks := .later }
def FnParseChunkSizeRoundTripsHexCardSaid : Prop := Claim7.holds Tryd.pinned (.plain (OpenSpec.ofChange fnParseChunkSizeRoundTripsHexSpec)) fnParseChunkSizeRoundTripsHexCard
end Rows
end Go.Proofs.Qxb6605477aDoor
