/-
  DERIVED. GIVEN WITH THE SEED: THE CARDS: each row of Qxb6003900aDoorRows.lean that lists a variable, with what it lists TIED to the program's text (the seventh form; the later family's looks); each row that meets fmt, with fmt's text TOLD by the authors' own Lean function (tested against real Go, not proved from fmt's source: count such statements apart). THE CARD IS WHAT COUNTS. Prove the row's statement (the work); the ties are given (Qxb6003900aDoorTie.lean); close each card by the builder's one call (the guide's Derived/Test/ToyasCard.lean, 'card_holds'). Laid BY PROGRAM, IN A SANDBOX (cutbox-door.mjs). By AI agents, Wed Nov 11 2026. No macro, syntax, notation, axiom, sorry.
-/
import Derived.Test.Qxb6003900aDoorRows
import GoSem.ClaimSeven
namespace Go.Proofs.Qxb6003900aDoor
namespace Rows

/-- THE TIED CARD OF 'zzlaws_root_c1.PropMaximalSubpartMatchesUnicode'. -/
def propMaximalSubpartMatchesUnicodeCard : Claim7 := { stood := { row := propMaximalSubpartMatchesUnicodeRow, standIns := [], harness := (true, "eda606f48d231342a78081ee9a6bfdb9dd78c45767b1454b4a7b09bb6cef5647"), looks := false }, kinds := [], alts := [], laidByText := true, laidKinds := [.data, .pinned], laidTests := true, laidLooks := .later }
def PropMaximalSubpartMatchesUnicodeCardSaid : Prop := Claim7.holds Tryd.pinned (.plain (OpenSpec.ofChange propMaximalSubpartMatchesUnicodeSpec)) propMaximalSubpartMatchesUnicodeCard
end Rows
end Go.Proofs.Qxb6003900aDoor
