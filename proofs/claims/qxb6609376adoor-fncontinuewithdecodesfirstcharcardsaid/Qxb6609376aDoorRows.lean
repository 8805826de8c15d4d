/-
  NARROWER THAN 'FOR EVERY INPUT', by the rows' own cells (each row's printed sentence says how): FnContinueWithDecodesFirstChar: laid · FnContinueWithKeepsPosition: laid.
  DERIVED. THE GIVEN ROWS OF THIS SEAT. 2 by the template 'for every input the law returns true; each argument reads behind the call as it read before'; 0 by the template 'total and deterministic' (their statements: Qxb6609376aDoorTotals.lean).
  GIVEN WITH THE SEED: the statements are not yours to turn. If you find one false, say at which input.
  Laid BY PROGRAM, IN A SANDBOX (cutbox-rows.mjs): the forced cells as the released guide's own fill.sh prints them over the translation e953f35530014c1a… (all of the seat's roots in one cut). By AI agents, Wed Nov 11 2026. No macro, syntax, notation, axiom, sorry.
-/
import Derived.Test.Qxb6609376aDoorChecked
import GoSem.PinnedTables
import GoSem.Claim
import GoSem.ClaimJoined
import GoSem.ClaimMapViews
import Derived.JoinedTies
import Derived.KernelRfl
namespace Go.Proofs.Qxb6609376aDoor
/- THE CELL 'sum', in the pinned program and in every row, IS THE sha256 OF THE DUMP (.gsa) THAT Qxb6609376aDoorProg.lean LOADS. Nothing in Lean hashes anything: it is a label: what it is worth is what the hold of that sum in a sandbox is worth. -/
noncomputable def Tryd.pinned : Pinned := { name := "qxb6609376adoor", sum := "e953f35530014c1a4fde65a1f48e2c1e7fe441b98ad587c4b7fecd6149445919", checked := Tryd.checked }
namespace Rows
def none {H : Type} : Left H := { results := [], args := [] }

/- WHAT THE LISTED PACKAGE-LEVEL VARIABLES READ AS WHEN THE CALL BEGINS. Each datum BY PROGRAM (the guide's laid-datum.mjs) off the statement by which the dump's own 'gosem.cut.vars' lays the variable. In a bare row this is a premise. The card (Qxb6609376aDoorCards.lean) ties it to the program's text. -/
def laid_unicode_utf8_acceptRanges {H : Type} : DataW H := .agg [.agg [.lit (.int .u8 128), .lit (.int .u8 191)], .agg [.lit (.int .u8 160), .lit (.int .u8 191)], .agg [.lit (.int .u8 128), .lit (.int .u8 159)], .agg [.lit (.int .u8 144), .lit (.int .u8 191)], .agg [.lit (.int .u8 128), .lit (.int .u8 143)], .agg [.lit (.int .u8 0), .lit (.int .u8 0)], .agg [.lit (.int .u8 0), .lit (.int .u8 0)], .agg [.lit (.int .u8 0), .lit (.int .u8 0)], .agg [.lit (.int .u8 0), .lit (.int .u8 0)], .agg [.lit (.int .u8 0), .lit (.int .u8 0)], .agg [.lit (.int .u8 0), .lit (.int .u8 0)], .agg [.lit (.int .u8 0), .lit (.int .u8 0)], .agg [.lit (.int .u8 0), .lit (.int .u8 0)], .agg [.lit (.int .u8 0), .lit (.int .u8 0)], .agg [.lit (.int .u8 0), .lit (.int .u8 0)], .agg [.lit (.int .u8 0), .lit (.int .u8 0)]]
/-- One of Go's own tables, pinned by name: the form's constant. -/
def laid_unicode_utf8_first : DataW Unit := Go.Pinned.utf8First

/-- 'zzlaws_internal_notation_b1.FnContinueWithDecodesFirstChar': WHATEVER THE INPUT: true; the input reads as it did. -/
def fnContinueWithDecodesFirstCharSpec : ChangeSpec := { name := "fnContinueWithDecodesFirstChar", fn := fun _ => fun
  | [d1, d2, d3] => { results := [.lit (.bool true)], args := [d1, d2, d3] }
  | _ => none }
def fnContinueWithDecodesFirstCharRow : OpenClaim := { program := "qxb6609376adoor", sum := "e953f35530014c1a4fde65a1f48e2c1e7fe441b98ad587c4b7fecd6149445919", func := "example.com/lucchetto/lucchetto/zzlaws_internal_notation_b1.FnContinueWithDecodesFirstChar", spec := "fnContinueWithDecodesFirstChar", named := ["unicode/utf8.first", "unicode/utf8.acceptRanges"], apart := false, laid := [("unicode/utf8.acceptRanges", laid_unicode_utf8_acceptRanges), ("unicode/utf8.first", laid_unicode_utf8_first)] }
def FnContinueWithDecodesFirstCharSaid : Prop := fnContinueWithDecodesFirstCharRow.holds Tryd.pinned (OpenSpec.ofChange fnContinueWithDecodesFirstCharSpec)

/-- ITS FALSE NEIGHBOUR: 'it returns false'. Refute it at one input. -/
def fnContinueWithDecodesFirstCharWrong : ChangeSpec := { name := "fnContinueWithDecodesFirstChar", fn := fun _ => fun
  | [d1, d2, d3] => { results := [.lit (.bool false)], args := [d1, d2, d3] }
  | _ => none }
def FnContinueWithDecodesFirstCharWrongFalsely : Prop := fnContinueWithDecodesFirstCharRow.holds Tryd.pinned (OpenSpec.ofChange fnContinueWithDecodesFirstCharWrong)

/-- 'zzlaws_internal_notation_b1.FnContinueWithKeepsPosition': WHATEVER THE INPUT: true; the input reads as it did. -/
def fnContinueWithKeepsPositionSpec : ChangeSpec := { name := "fnContinueWithKeepsPosition", fn := fun _ => fun
  | [d1, d2, d3, d4] => { results := [.lit (.bool true)], args := [d1, d2, d3, d4] }
  | _ => none }
def fnContinueWithKeepsPositionRow : OpenClaim := { program := "qxb6609376adoor", sum := "e953f35530014c1a4fde65a1f48e2c1e7fe441b98ad587c4b7fecd6149445919", func := "example.com/lucchetto/lucchetto/zzlaws_internal_notation_b1.FnContinueWithKeepsPosition", spec := "fnContinueWithKeepsPosition", named := ["unicode/utf8.first", "unicode/utf8.acceptRanges"], apart := false, laid := [("unicode/utf8.acceptRanges", laid_unicode_utf8_acceptRanges), ("unicode/utf8.first", laid_unicode_utf8_first)] }
def FnContinueWithKeepsPositionSaid : Prop := fnContinueWithKeepsPositionRow.holds Tryd.pinned (OpenSpec.ofChange fnContinueWithKeepsPositionSpec)

/-- ITS FALSE NEIGHBOUR: 'it returns false'. Refute it at one input. -/
def fnContinueWithKeepsPositionWrong : ChangeSpec := { name := "fnContinueWithKeepsPosition", fn := fun _ => fun
  | [d1, d2, d3, d4] => { results := [.lit (.bool false)], args := [d1, d2, d3, d4] }
  | _ => none }
def FnContinueWithKeepsPositionWrongFalsely : Prop := fnContinueWithKeepsPositionRow.holds Tryd.pinned (OpenSpec.ofChange fnContinueWithKeepsPositionWrong)

end Rows
end Go.Proofs.Qxb6609376aDoor
