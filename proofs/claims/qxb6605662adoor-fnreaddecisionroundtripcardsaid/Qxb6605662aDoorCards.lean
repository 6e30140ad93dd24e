/-
  DERIVED. GIVEN WITH THE SEED: THE CARDS: each row of Qxb6605662aDoorRows.lean that lists a variable, with what it lists TIED to the program's text (the seventh form; the later family's looks); each row that meets fmt, with fmt's text TOLD by the authors' own Lean function (tested against real Go, not proved from fmt's source: count such statements apart). THE CARD IS WHAT COUNTS. Prove the row's statement (the work); the ties are given (Qxb6605662aDoorTie.lean); close each card by the builder's one call (the guide's Derived/Test/ToyasCard.lean, 'card_holds'). Laid BY PROGRAM, IN A SANDBOX (cutbox-door.mjs). By AI agents, Wed Nov 11 2026. No macro, syntax, notation, axiom, sorry.
-/
import Derived.Test.Qxb6605662aDoorRows
import GoSem.ClaimSeven
namespace Go.Proofs.Qxb6605662aDoor
namespace Rows

/-- THE TIED CARD OF 'zzlaws_internal_protocol_b1.FnReadDecisionMatchesGrammarModel'. -/
def fnReadDecisionMatchesGrammarModelCard : Claim7 := { stood := { row := fnReadDecisionMatchesGrammarModelRow, standIns := [], harness := (true, "3df2ce092898f71451aeb25314b57d8c98eed538bc3df776797ab22dd7f2032c"), looks := false }, kinds := [], alts := [], laidByText := true, laidKinds := [.data, .pinned], laidTests := true, laidLooks := .later }
def FnReadDecisionMatchesGrammarModelCardSaid : Prop := Claim7.holds Tryd.pinned (.plain (OpenSpec.ofChange fnReadDecisionMatchesGrammarModelSpec)) fnReadDecisionMatchesGrammarModelCard

/-- THE TIED CARD OF 'zzlaws_internal_protocol_b1.FnReadDecisionRoundTrip'. -/
def fnReadDecisionRoundTripCard : Claim7 := { stood := { row := fnReadDecisionRoundTripRow, standIns := [], harness := (true, "3df2ce092898f71451aeb25314b57d8c98eed538bc3df776797ab22dd7f2032c"), looks := false }, kinds := [], alts := [], laidByText := true, laidKinds := [.data, .pinned], laidTests := true, laidLooks := .later }
def FnReadDecisionRoundTripCardSaid : Prop := Claim7.holds Tryd.pinned (.plain (OpenSpec.ofChange fnReadDecisionRoundTripSpec)) fnReadDecisionRoundTripCard

/-- THE TIED CARD OF 'zzlaws_internal_protocol_b1.FnAppendHeldReadBackByJsonfast'. -/
def fnAppendHeldReadBackByJsonfastCard : Claim7 := { stood := { row := fnAppendHeldReadBackByJsonfastRow, standIns := [], harness := (true, "3df2ce092898f71451aeb25314b57d8c98eed538bc3df776797ab22dd7f2032c"), looks := false }, kinds := [], alts := [], laidByText := true, laidKinds := [.data, .data, .data, .data, .pinned], laidTests := true, laidLooks := .later }
def FnAppendHeldReadBackByJsonfastCardSaid : Prop := Claim7.holds Tryd.pinned (.plain (OpenSpec.ofChange fnAppendHeldReadBackByJsonfastSpec)) fnAppendHeldReadBackByJsonfastCard
end Rows
end Go.Proofs.Qxb6605662aDoor
