/-
  DERIVED. GIVEN WITH THE SEED: THE CARDS: each row of Qxb6609376aDoorRows.lean that lists a variable, with what it lists TIED to the program's text (the seventh form; the later family's looks); each row that meets fmt, with fmt's text TOLD by the authors' own Lean function (tested against real Go, not proved from fmt's source: count such statements apart). THE CARD IS WHAT COUNTS. Prove the row's statement (the work); the ties are given (Qxb6609376aDoorTie.lean); close each card by the builder's one call (the guide's Derived/Test/ToyasCard.lean, 'card_holds'). Laid BY PROGRAM, IN A SANDBOX (cutbox-door.mjs). By AI agents, Wed Nov 11 2026. No macro, syntax, notation, axiom, sorry.
-/
import Derived.Test.Qxb6609376aDoorRows
import GoSem.ClaimSeven
namespace Go.Proofs.Qxb6609376aDoor
namespace Rows

/-- THE TIED CARD OF 'zzlaws_internal_notation_b1.FnContinueWithDecodesFirstChar'. -/
def fnContinueWithDecodesFirstCharCard : Claim7 := { stood := { row := fnContinueWithDecodesFirstCharRow, standIns := [], harness := (true, "67c996fe09131b62a6acaa531d8d78fed9a14d3324db12e607b2bf0c4944cdd7"), looks := false }, kinds := [], alts := [], laidByText := true, laidKinds := [.data, .pinned], laidTests := true, laidLooks := .later }
def FnContinueWithDecodesFirstCharCardSaid : Prop := Claim7.holds Tryd.pinned (.plain (OpenSpec.ofChange fnContinueWithDecodesFirstCharSpec)) fnContinueWithDecodesFirstCharCard

/-- THE TIED CARD OF 'zzlaws_internal_notation_b1.FnContinueWithKeepsPosition'. -/
def fnContinueWithKeepsPositionCard : Claim7 := { stood := { row := fnContinueWithKeepsPositionRow, standIns := [], harness := (true, "67c996fe09131b62a6acaa531d8d78fed9a14d3324db12e607b2bf0c4944cdd7"), looks := false }, kinds := [], alts := [], laidByText := true, laidKinds := [.data, .pinned], laidTests := true, laidLooks := .later }
def FnContinueWithKeepsPositionCardSaid : Prop := Claim7.holds Tryd.pinned (.plain (OpenSpec.ofChange fnContinueWithKeepsPositionSpec)) fnContinueWithKeepsPositionCard
end Rows
end Go.Proofs.Qxb6609376aDoor
