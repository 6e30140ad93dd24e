/-
  DERIVED. GIVEN WITH THE SEED: THE CARDS: each row of Qxb6606027aDoorRows.lean that lists a variable, with what it lists TIED to the program's text (the seventh form; the later family's looks); each row that meets fmt, with fmt's text TOLD by the authors' own Lean function (tested against real Go, not proved from fmt's source: count such statements apart). THE CARD IS WHAT COUNTS. Prove the row's statement (the work); the ties are given (Qxb6606027aDoorTie.lean); close each card by the builder's one call (the guide's Derived/Test/ToyasCard.lean, 'card_holds'). Laid BY PROGRAM, IN A SANDBOX (cutbox-door.mjs). By AI agents, Wed Nov 11 2026. No macro, syntax, notation, axiom, sorry.
-/
import Derived.Test.Qxb6606027aDoorRows
import GoSem.ClaimSeven
namespace Go.Proofs.Qxb6606027aDoor
namespace Rows

/-- THE TIED CARD OF 'zzlaws_changelog_b1.FnChangelogIsLinkDefinitionMatchesAutomaton'. -/
def fnChangelogIsLinkDefinitionMatchesAutomatonCard : Claim7 := { stood := { row := fnChangelogIsLinkDefinitionMatchesAutomatonRow, standIns := [], harness := (true, "ece7863c46391824867a013f1062946fcb1ae9a47834b46ed0c61cbcb4dac751"), looks := false }, kinds := [], alts := [], laidByText := true, laidKinds := [.data, .pinned], laidTests := true, laidLooks := .later }
def FnChangelogIsLinkDefinitionMatchesAutomatonCardSaid : Prop := Claim7.holds Tryd.pinned (.plain (OpenSpec.ofChange fnChangelogIsLinkDefinitionMatchesAutomatonSpec)) fnChangelogIsLinkDefinitionMatchesAutomatonCard

/-- THE TIED CARD OF 'zzlaws_changelog_b1.FnChangelogIsLinkDefinitionIgnoresOuterBlanks'. -/
def fnChangelogIsLinkDefinitionIgnoresOuterBlanksCard : Claim7 := { stood := { row := fnChangelogIsLinkDefinitionIgnoresOuterBlanksRow, standIns := [], harness := (true, "ece7863c46391824867a013f1062946fcb1ae9a47834b46ed0c61cbcb4dac751"), looks := false }, kinds := [], alts := [], laidByText := true, laidKinds := [.data, .pinned], laidTests := true, laidLooks := .later }
def FnChangelogIsLinkDefinitionIgnoresOuterBlanksCardSaid : Prop := Claim7.holds Tryd.pinned (.plain (OpenSpec.ofChange fnChangelogIsLinkDefinitionIgnoresOuterBlanksSpec)) fnChangelogIsLinkDefinitionIgnoresOuterBlanksCard

/-- THE TIED CARD OF 'zzlaws_changelog_b1.FnChangelogIsLinkDefinitionAcceptsWrittenDefinition'. -/
def fnChangelogIsLinkDefinitionAcceptsWrittenDefinitionCard : Claim7 := { stood := { row := fnChangelogIsLinkDefinitionAcceptsWrittenDefinitionRow, standIns := [], harness := (true, "ece7863c46391824867a013f1062946fcb1ae9a47834b46ed0c61cbcb4dac751"), looks := false }, kinds := [], alts := [], laidByText := true, laidKinds := [.data, .pinned], laidTests := true, laidLooks := .later }
def FnChangelogIsLinkDefinitionAcceptsWrittenDefinitionCardSaid : Prop := Claim7.holds Tryd.pinned (.plain (OpenSpec.ofChange fnChangelogIsLinkDefinitionAcceptsWrittenDefinitionSpec)) fnChangelogIsLinkDefinitionAcceptsWrittenDefinitionCard

/-- THE TIED CARD OF 'zzlaws_changelog_b1.FnChangelogVersionStartMatchesModel'. -/
def fnChangelogVersionStartMatchesModelCard : Claim7 := { stood := { row := fnChangelogVersionStartMatchesModelRow, standIns := [], harness := (true, "ece7863c46391824867a013f1062946fcb1ae9a47834b46ed0c61cbcb4dac751"), looks := false }, kinds := [], alts := [], laidByText := true, laidKinds := [.data, .data, .data, .pinned, .pinned], laidTests := true, laidLooks := .later }
def FnChangelogVersionStartMatchesModelCardSaid : Prop := Claim7.holds Tryd.pinned (.plain (OpenSpec.ofChange fnChangelogVersionStartMatchesModelSpec)) fnChangelogVersionStartMatchesModelCard
end Rows
end Go.Proofs.Qxb6606027aDoor
