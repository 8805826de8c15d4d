/-
  DERIVED. GIVEN WITH THE SEED: THE CARDS: each row of Qxb6606271aDoorRows.lean that lists a variable, with what it lists TIED to the program's text (the seventh form; the later family's looks); each row that meets fmt, with fmt's text TOLD by the authors' own Lean function (tested against real Go, not proved from fmt's source: count such statements apart). THE CARD IS WHAT COUNTS. Prove the row's statement (the work); the ties are given (Qxb6606271aDoorTie.lean); close each card by the builder's one call (the guide's Derived/Test/ToyasCard.lean, 'card_holds'). Laid BY PROGRAM, IN A SANDBOX (cutbox-door.mjs). By AI agents, Wed Nov 11 2026. No macro, syntax, notation, axiom, sorry.
-/
import Derived.Test.Qxb6606271aDoorRows
import GoSem.ClaimSeven
namespace Go.Proofs.Qxb6606271aDoor
namespace Rows

/-- THE TIED CARD OF 'zzlaws_changelog_b1.FnChangelogVersionStartStableUnderAppend'. -/
def fnChangelogVersionStartStableUnderAppendCard : Claim7 := { stood := { row := fnChangelogVersionStartStableUnderAppendRow, standIns := [], harness := (true, "65ffd7eae88b4f412fcdfdf088d15f68c1657507e5d494ae37cc006bc2428ea1"), looks := false }, kinds := [], alts := [], laidByText := true, laidKinds := [.data, .data, .data, .pinned, .pinned], laidTests := true, laidLooks := .later }
def FnChangelogVersionStartStableUnderAppendCardSaid : Prop := Claim7.holds Tryd.pinned (.plain (OpenSpec.ofChange fnChangelogVersionStartStableUnderAppendSpec)) fnChangelogVersionStartStableUnderAppendCard

/-- THE TIED CARD OF 'zzlaws_changelog_b1.FnChangelogAtxHeadingMatchesWordModel'. -/
def fnChangelogAtxHeadingMatchesWordModelCard : Claim7 := { stood := { row := fnChangelogAtxHeadingMatchesWordModelRow, standIns := [], harness := (true, "65ffd7eae88b4f412fcdfdf088d15f68c1657507e5d494ae37cc006bc2428ea1"), looks := false }, kinds := [], alts := [], laidByText := true, laidKinds := [.data, .pinned], laidTests := true, laidLooks := .later }
def FnChangelogAtxHeadingMatchesWordModelCardSaid : Prop := Claim7.holds Tryd.pinned (.plain (OpenSpec.ofChange fnChangelogAtxHeadingMatchesWordModelSpec)) fnChangelogAtxHeadingMatchesWordModelCard

/-- THE TIED CARD OF 'zzlaws_changelog_b1.FnChangelogAtxHeadingRewriteReadsBack'. -/
def fnChangelogAtxHeadingRewriteReadsBackCard : Claim7 := { stood := { row := fnChangelogAtxHeadingRewriteReadsBackRow, standIns := [], harness := (true, "65ffd7eae88b4f412fcdfdf088d15f68c1657507e5d494ae37cc006bc2428ea1"), looks := false }, kinds := [], alts := [], laidByText := true, laidKinds := [.data, .pinned], laidTests := true, laidLooks := .later }
def FnChangelogAtxHeadingRewriteReadsBackCardSaid : Prop := Claim7.holds Tryd.pinned (.plain (OpenSpec.ofChange fnChangelogAtxHeadingRewriteReadsBackSpec)) fnChangelogAtxHeadingRewriteReadsBackCard
end Rows
end Go.Proofs.Qxb6606271aDoor
