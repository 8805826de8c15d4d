/-
  NARROWER THAN 'FOR EVERY INPUT', by the rows' own cells (each row's printed sentence says how): FnAppendTextAcceptsExactlyUTF8AndRoundTrips: laid · FnAppendLetterAcceptsAndRoundTrips: laid.
  DERIVED. THE GIVEN ROWS OF THIS SEAT. 4 by the template 'for every input the law returns true; each argument reads behind the call as it read before'; 0 by the template 'total and deterministic' (their statements: Qxb6003874aFmtTotals.lean).
  GIVEN WITH THE SEED: the statements are not yours to turn. If you find one false, say at which input.
  Laid BY PROGRAM, IN A SANDBOX (cutbox-rows.mjs): the forced cells as the released guide's own fill.sh prints them over the translation c7ef758d45d6a689… (all of the seat's roots in one cut). By AI agents, Wed Nov 11 2026. No macro, syntax, notation, axiom, sorry.
-/
import Derived.Test.Qxb6003874aFmtChecked
import GoSem.PinnedTables
import GoSem.Claim
import GoSem.ClaimJoined
import GoSem.ClaimMapViews
import Derived.JoinedTies
import Derived.KernelRfl
namespace Go.Proofs.Qxb6003874aFmt
/- THE CELL 'sum', in the pinned program and in every row, IS THE sha256 OF THE DUMP (.gsa) THAT Qxb6003874aFmtProg.lean LOADS. Nothing in Lean hashes anything: it is a label: what it is worth is what the hold of that sum in a sandbox is worth. -/
noncomputable def Tryf.pinned : Pinned := { name := "qxb6003874afmt", sum := "c7ef758d45d6a689888792288bdb6ccf0cbdc9509b7abbda2427351ef619cb95", checked := Tryf.checked }
namespace Rows
def none {H : Type} : Left H := { results := [], args := [] }

/- WHAT THE LISTED PACKAGE-LEVEL VARIABLES READ AS WHEN THE CALL BEGINS. Each datum BY PROGRAM (the guide's laid-datum.mjs) off the statement by which the dump's own 'gosem.cut.vars' lays the variable. In a bare row this is a premise. The card (Qxb6003874aFmtCards.lean) ties it to the program's text. -/
def laid_unicode_utf8_acceptRanges {H : Type} : DataW H := .agg [.agg [.lit (.int .u8 128), .lit (.int .u8 191)], .agg [.lit (.int .u8 160), .lit (.int .u8 191)], .agg [.lit (.int .u8 128), .lit (.int .u8 159)], .agg [.lit (.int .u8 144), .lit (.int .u8 191)], .agg [.lit (.int .u8 128), .lit (.int .u8 143)], .agg [.lit (.int .u8 0), .lit (.int .u8 0)], .agg [.lit (.int .u8 0), .lit (.int .u8 0)], .agg [.lit (.int .u8 0), .lit (.int .u8 0)], .agg [.lit (.int .u8 0), .lit (.int .u8 0)], .agg [.lit (.int .u8 0), .lit (.int .u8 0)], .agg [.lit (.int .u8 0), .lit (.int .u8 0)], .agg [.lit (.int .u8 0), .lit (.int .u8 0)], .agg [.lit (.int .u8 0), .lit (.int .u8 0)], .agg [.lit (.int .u8 0), .lit (.int .u8 0)], .agg [.lit (.int .u8 0), .lit (.int .u8 0)], .agg [.lit (.int .u8 0), .lit (.int .u8 0)]]
/-- One of Go's own tables, pinned by name: the form's constant. -/
def laid_unicode_utf8_first : DataW Unit := Go.Pinned.utf8First
def laid_math_bits_deBruijn32tab {H : Type} : DataW H := .agg [.lit (.int .u8 0), .lit (.int .u8 1), .lit (.int .u8 28), .lit (.int .u8 2), .lit (.int .u8 29), .lit (.int .u8 14), .lit (.int .u8 24), .lit (.int .u8 3), .lit (.int .u8 30), .lit (.int .u8 22), .lit (.int .u8 20), .lit (.int .u8 15), .lit (.int .u8 25), .lit (.int .u8 17), .lit (.int .u8 4), .lit (.int .u8 8), .lit (.int .u8 31), .lit (.int .u8 27), .lit (.int .u8 13), .lit (.int .u8 23), .lit (.int .u8 21), .lit (.int .u8 19), .lit (.int .u8 16), .lit (.int .u8 7), .lit (.int .u8 26), .lit (.int .u8 12), .lit (.int .u8 18), .lit (.int .u8 6), .lit (.int .u8 11), .lit (.int .u8 5), .lit (.int .u8 10), .lit (.int .u8 9)]
def laid_math_bits_deBruijn64tab {H : Type} : DataW H := .agg [.lit (.int .u8 0), .lit (.int .u8 1), .lit (.int .u8 56), .lit (.int .u8 2), .lit (.int .u8 57), .lit (.int .u8 49), .lit (.int .u8 28), .lit (.int .u8 3), .lit (.int .u8 61), .lit (.int .u8 58), .lit (.int .u8 42), .lit (.int .u8 50), .lit (.int .u8 38), .lit (.int .u8 29), .lit (.int .u8 17), .lit (.int .u8 4), .lit (.int .u8 62), .lit (.int .u8 47), .lit (.int .u8 59), .lit (.int .u8 36), .lit (.int .u8 45), .lit (.int .u8 43), .lit (.int .u8 51), .lit (.int .u8 22), .lit (.int .u8 53), .lit (.int .u8 39), .lit (.int .u8 33), .lit (.int .u8 30), .lit (.int .u8 24), .lit (.int .u8 18), .lit (.int .u8 12), .lit (.int .u8 5), .lit (.int .u8 63), .lit (.int .u8 55), .lit (.int .u8 48), .lit (.int .u8 27), .lit (.int .u8 60), .lit (.int .u8 41), .lit (.int .u8 37), .lit (.int .u8 16), .lit (.int .u8 46), .lit (.int .u8 35), .lit (.int .u8 44), .lit (.int .u8 21), .lit (.int .u8 52), .lit (.int .u8 32), .lit (.int .u8 23), .lit (.int .u8 11), .lit (.int .u8 54), .lit (.int .u8 26), .lit (.int .u8 40), .lit (.int .u8 15), .lit (.int .u8 34), .lit (.int .u8 20), .lit (.int .u8 31), .lit (.int .u8 10), .lit (.int .u8 25), .lit (.int .u8 14), .lit (.int .u8 19), .lit (.int .u8 9), .lit (.int .u8 13), .lit (.int .u8 8), .lit (.int .u8 7), .lit (.int .u8 6)]
def laid_internal_strconv_uint64pow10 {H : Type} : DataW H := .agg [.lit (.int .u64 1), .lit (.int .u64 10), .lit (.int .u64 100), .lit (.int .u64 1000), .lit (.int .u64 10000), .lit (.int .u64 100000), .lit (.int .u64 1000000), .lit (.int .u64 10000000), .lit (.int .u64 100000000), .lit (.int .u64 1000000000), .lit (.int .u64 10000000000), .lit (.int .u64 100000000000), .lit (.int .u64 1000000000000), .lit (.int .u64 10000000000000), .lit (.int .u64 100000000000000), .lit (.int .u64 1000000000000000), .lit (.int .u64 10000000000000000), .lit (.int .u64 100000000000000000), .lit (.int .u64 1000000000000000000), .lit (.int .u64 10000000000000000000)]

/-- 'zzlaws_internal_msgpack_g1.FnNumberReadsBackAppendUintShortest': WHATEVER THE INPUT: true; the input reads as it did. -/
def fnNumberReadsBackAppendUintShortestSpec : ChangeSpec := { name := "fnNumberReadsBackAppendUintShortest", fn := fun _ => fun
  | [d] => { results := [.lit (.bool true)], args := [d] }
  | _ => none }
def fnNumberReadsBackAppendUintShortestRow : OpenClaim := { program := "qxb6003874afmt", sum := "c7ef758d45d6a689888792288bdb6ccf0cbdc9509b7abbda2427351ef619cb95", func := "example.com/byteloom/byteloom/zzlaws_internal_msgpack_g1.FnNumberReadsBackAppendUintShortest", spec := "fnNumberReadsBackAppendUintShortest", stops := ["fmt.errorf, its operands' methods called", "fmt.Sprintf, its operands' methods called"], inPlace := ["fmt.Sprintf"], unfollowed := true, recurses := true, apart := false }
/-- NO THEOREM (fmt's text is open here; it may be false): for the released tool's asking of the row's closed facts alone. THE STATEMENT IS 'FnNumberReadsBackAppendUintShortestToldSaid' (Qxb6003874aFmtCards.lean). -/
def FnNumberReadsBackAppendUintShortestFormAsk : Prop := fnNumberReadsBackAppendUintShortestRow.holds Tryf.pinned (OpenSpec.ofChange fnNumberReadsBackAppendUintShortestSpec)

/-- ITS FALSE NEIGHBOUR: 'it returns false'. Refute it at one input. -/
def fnNumberReadsBackAppendUintShortestWrong : ChangeSpec := { name := "fnNumberReadsBackAppendUintShortest", fn := fun _ => fun
  | [d] => { results := [.lit (.bool false)], args := [d] }
  | _ => none }
def FnNumberReadsBackAppendUintShortestWrongFormAsk : Prop := fnNumberReadsBackAppendUintShortestRow.holds Tryf.pinned (OpenSpec.ofChange fnNumberReadsBackAppendUintShortestWrong)

/-- 'zzlaws_internal_plainjson_g1.FnNestChainCountsRoomLeft': WHATEVER THE INPUT: true; the input reads as it did. -/
def fnNestChainCountsRoomLeftSpec : ChangeSpec := { name := "fnNestChainCountsRoomLeft", fn := fun _ => fun
  | [d] => { results := [.lit (.bool true)], args := [d] }
  | _ => none }
def fnNestChainCountsRoomLeftRow : OpenClaim := { program := "qxb6003874afmt", sum := "c7ef758d45d6a689888792288bdb6ccf0cbdc9509b7abbda2427351ef619cb95", func := "example.com/byteloom/byteloom/zzlaws_internal_plainjson_g1.FnNestChainCountsRoomLeft", spec := "fnNestChainCountsRoomLeft", stops := ["fmt.errorf, its operands' methods called", "fmt.Sprintf, its operands' methods called"], inPlace := ["fmt.errorf"], unfollowed := true, recurses := true, apart := false }
/-- NO THEOREM (fmt's text is open here; it may be false): for the released tool's asking of the row's closed facts alone. THE STATEMENT IS 'FnNestChainCountsRoomLeftToldSaid' (Qxb6003874aFmtCards.lean). -/
def FnNestChainCountsRoomLeftFormAsk : Prop := fnNestChainCountsRoomLeftRow.holds Tryf.pinned (OpenSpec.ofChange fnNestChainCountsRoomLeftSpec)

/-- ITS FALSE NEIGHBOUR: 'it returns false'. Refute it at one input. -/
def fnNestChainCountsRoomLeftWrong : ChangeSpec := { name := "fnNestChainCountsRoomLeft", fn := fun _ => fun
  | [d] => { results := [.lit (.bool false)], args := [d] }
  | _ => none }
def FnNestChainCountsRoomLeftWrongFormAsk : Prop := fnNestChainCountsRoomLeftRow.holds Tryf.pinned (OpenSpec.ofChange fnNestChainCountsRoomLeftWrong)

/-- 'zzlaws_typedjson_g1.FnAppendTextAcceptsExactlyUTF8AndRoundTrips': WHATEVER THE INPUT: true; the input reads as it did. -/
def fnAppendTextAcceptsExactlyUTF8AndRoundTripsSpec : ChangeSpec := { name := "fnAppendTextAcceptsExactlyUTF8AndRoundTrips", fn := fun _ => fun
  | [d1, d2, d3, d4] => { results := [.lit (.bool true)], args := [d1, d2, d3, d4] }
  | _ => none }
def fnAppendTextAcceptsExactlyUTF8AndRoundTripsRow : OpenClaim := { program := "qxb6003874afmt", sum := "c7ef758d45d6a689888792288bdb6ccf0cbdc9509b7abbda2427351ef619cb95", func := "example.com/byteloom/byteloom/zzlaws_typedjson_g1.FnAppendTextAcceptsExactlyUTF8AndRoundTrips", spec := "fnAppendTextAcceptsExactlyUTF8AndRoundTrips", stops := ["fmt.errorf, its operands' methods called", "fmt.Sprintf, its operands' methods called"], inPlace := ["fmt.errorf"], unfollowed := true, recurses := true, named := ["unicode/utf8.first", "unicode/utf8.acceptRanges"], apart := false, laid := [("unicode/utf8.acceptRanges", laid_unicode_utf8_acceptRanges), ("unicode/utf8.first", laid_unicode_utf8_first)] }
/-- NO THEOREM (fmt's text is open here; it may be false): for the released tool's asking of the row's closed facts alone. THE STATEMENT IS 'FnAppendTextAcceptsExactlyUTF8AndRoundTripsToldSaid' (Qxb6003874aFmtCards.lean). -/
def FnAppendTextAcceptsExactlyUTF8AndRoundTripsFormAsk : Prop := fnAppendTextAcceptsExactlyUTF8AndRoundTripsRow.holds Tryf.pinned (OpenSpec.ofChange fnAppendTextAcceptsExactlyUTF8AndRoundTripsSpec)

/-- ITS FALSE NEIGHBOUR: 'it returns false'. Refute it at one input. -/
def fnAppendTextAcceptsExactlyUTF8AndRoundTripsWrong : ChangeSpec := { name := "fnAppendTextAcceptsExactlyUTF8AndRoundTrips", fn := fun _ => fun
  | [d1, d2, d3, d4] => { results := [.lit (.bool false)], args := [d1, d2, d3, d4] }
  | _ => none }
def FnAppendTextAcceptsExactlyUTF8AndRoundTripsWrongFormAsk : Prop := fnAppendTextAcceptsExactlyUTF8AndRoundTripsRow.holds Tryf.pinned (OpenSpec.ofChange fnAppendTextAcceptsExactlyUTF8AndRoundTripsWrong)

/-- 'zzlaws_typedjson_g1.FnAppendLetterAcceptsAndRoundTrips': WHATEVER THE INPUT: true; the input reads as it did. -/
def fnAppendLetterAcceptsAndRoundTripsSpec : ChangeSpec := { name := "fnAppendLetterAcceptsAndRoundTrips", fn := fun _ => fun
  | [d1, d2, d3, d4, d5, d6, d7, d8] => { results := [.lit (.bool true)], args := [d1, d2, d3, d4, d5, d6, d7, d8] }
  | _ => none }
def fnAppendLetterAcceptsAndRoundTripsRow : OpenClaim := { program := "qxb6003874afmt", sum := "c7ef758d45d6a689888792288bdb6ccf0cbdc9509b7abbda2427351ef619cb95", func := "example.com/byteloom/byteloom/zzlaws_typedjson_g1.FnAppendLetterAcceptsAndRoundTrips", spec := "fnAppendLetterAcceptsAndRoundTrips", stops := ["fmt.errorf, its operands' methods called", "fmt.Sprintf, its operands' methods called"], inPlace := ["fmt.errorf"], unfollowed := true, recurses := true, named := ["unicode/utf8.first", "unicode/utf8.acceptRanges", "internal/strconv.uint64pow10", "math/bits.deBruijn32tab", "math/bits.deBruijn64tab"], apart := false, laid := [("math/bits.deBruijn32tab", laid_math_bits_deBruijn32tab), ("math/bits.deBruijn64tab", laid_math_bits_deBruijn64tab), ("internal/strconv.uint64pow10", laid_internal_strconv_uint64pow10), ("unicode/utf8.acceptRanges", laid_unicode_utf8_acceptRanges), ("unicode/utf8.first", laid_unicode_utf8_first)] }
/-- NO THEOREM (fmt's text is open here; it may be false): for the released tool's asking of the row's closed facts alone. THE STATEMENT IS 'FnAppendLetterAcceptsAndRoundTripsToldSaid' (Qxb6003874aFmtCards.lean). -/
def FnAppendLetterAcceptsAndRoundTripsFormAsk : Prop := fnAppendLetterAcceptsAndRoundTripsRow.holds Tryf.pinned (OpenSpec.ofChange fnAppendLetterAcceptsAndRoundTripsSpec)

/-- ITS FALSE NEIGHBOUR: 'it returns false'. Refute it at one input. -/
def fnAppendLetterAcceptsAndRoundTripsWrong : ChangeSpec := { name := "fnAppendLetterAcceptsAndRoundTrips", fn := fun _ => fun
  | [d1, d2, d3, d4, d5, d6, d7, d8] => { results := [.lit (.bool false)], args := [d1, d2, d3, d4, d5, d6, d7, d8] }
  | _ => none }
def FnAppendLetterAcceptsAndRoundTripsWrongFormAsk : Prop := fnAppendLetterAcceptsAndRoundTripsRow.holds Tryf.pinned (OpenSpec.ofChange fnAppendLetterAcceptsAndRoundTripsWrong)

end Rows
end Go.Proofs.Qxb6003874aFmt
