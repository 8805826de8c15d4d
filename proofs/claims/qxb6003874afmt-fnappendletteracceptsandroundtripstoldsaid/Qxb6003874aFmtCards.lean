/-
  DERIVED. GIVEN WITH THE SEED: THE CARDS: each row of Qxb6003874aFmtRows.lean that lists a variable, with what it lists TIED to the program's text (the seventh form; the later family's looks); each row that meets fmt, with fmt's text TOLD by the authors' own Lean function (tested against real Go, not proved from fmt's source: count such statements apart). THE CARD IS WHAT COUNTS. Prove the row's statement (the work); the ties are given (Qxb6003874aFmtTie.lean); close each card by the builder's one call (the guide's Derived/Test/ToyasCard.lean, 'card_holds'). Laid BY PROGRAM, IN A SANDBOX (cutbox-door.mjs). By AI agents, Wed Nov 11 2026. No macro, syntax, notation, axiom, sorry.
-/
import Derived.Test.Qxb6003874aFmtRows
import GoSem.ClaimSeven
namespace Go.Proofs.Qxb6003874aFmt
namespace Rows

/-- THE TOLD CARD OF 'zzlaws_internal_msgpack_g1.FnNumberReadsBackAppendUintShortest'. -/
def fnNumberReadsBackAppendUintShortestCard : Claim7 := { stood := { row := fnNumberReadsBackAppendUintShortestRow, standIns := [], harness := (true, "70ba3c0a012572952b780d3df5e85ab38bfb33951ac73d4be8cee39489a733ce"), looks := false }, told := true, goes := false }
def FnNumberReadsBackAppendUintShortestToldSaid : Prop := Claim7.holds Tryf.pinned (.plain (OpenSpec.ofChange fnNumberReadsBackAppendUintShortestSpec)) fnNumberReadsBackAppendUintShortestCard
/-- ITS FALSE NEIGHBOUR. Refute it at one input. -/
def FnNumberReadsBackAppendUintShortestToldWrongFalsely : Prop := Claim7.holds Tryf.pinned (.plain (OpenSpec.ofChange fnNumberReadsBackAppendUintShortestWrong)) fnNumberReadsBackAppendUintShortestCard

/-- THE TOLD CARD OF 'zzlaws_internal_plainjson_g1.FnNestChainCountsRoomLeft'. -/
def fnNestChainCountsRoomLeftCard : Claim7 := { stood := { row := fnNestChainCountsRoomLeftRow, standIns := [], harness := (true, "70ba3c0a012572952b780d3df5e85ab38bfb33951ac73d4be8cee39489a733ce"), looks := false }, told := true, goes := false }
def FnNestChainCountsRoomLeftToldSaid : Prop := Claim7.holds Tryf.pinned (.plain (OpenSpec.ofChange fnNestChainCountsRoomLeftSpec)) fnNestChainCountsRoomLeftCard
/-- ITS FALSE NEIGHBOUR. Refute it at one input. -/
def FnNestChainCountsRoomLeftToldWrongFalsely : Prop := Claim7.holds Tryf.pinned (.plain (OpenSpec.ofChange fnNestChainCountsRoomLeftWrong)) fnNestChainCountsRoomLeftCard

/-- THE TOLD AND TIED CARD OF 'zzlaws_typedjson_g1.FnAppendTextAcceptsExactlyUTF8AndRoundTrips'. -/
def fnAppendTextAcceptsExactlyUTF8AndRoundTripsCard : Claim7 := { stood := { row := fnAppendTextAcceptsExactlyUTF8AndRoundTripsRow, standIns := [], harness := (true, "70ba3c0a012572952b780d3df5e85ab38bfb33951ac73d4be8cee39489a733ce"), looks := false }, told := true, laidByText := true, laidKinds := [.data, .pinned], laidTests := true, laidLooks := .later, goes := false }
def FnAppendTextAcceptsExactlyUTF8AndRoundTripsToldSaid : Prop := Claim7.holds Tryf.pinned (.plain (OpenSpec.ofChange fnAppendTextAcceptsExactlyUTF8AndRoundTripsSpec)) fnAppendTextAcceptsExactlyUTF8AndRoundTripsCard
/-- ITS FALSE NEIGHBOUR. Refute it at one input. -/
def FnAppendTextAcceptsExactlyUTF8AndRoundTripsToldWrongFalsely : Prop := Claim7.holds Tryf.pinned (.plain (OpenSpec.ofChange fnAppendTextAcceptsExactlyUTF8AndRoundTripsWrong)) fnAppendTextAcceptsExactlyUTF8AndRoundTripsCard

/-- THE TOLD AND TIED CARD OF 'zzlaws_typedjson_g1.FnAppendLetterAcceptsAndRoundTrips'. -/
def fnAppendLetterAcceptsAndRoundTripsCard : Claim7 := { stood := { row := fnAppendLetterAcceptsAndRoundTripsRow, standIns := [], harness := (true, "70ba3c0a012572952b780d3df5e85ab38bfb33951ac73d4be8cee39489a733ce"), looks := false }, told := true, laidByText := true, laidKinds := [.data, .data, .data, .data, .pinned], laidTests := true, laidLooks := .later, goes := false }
def FnAppendLetterAcceptsAndRoundTripsToldSaid : Prop := Claim7.holds Tryf.pinned (.plain (OpenSpec.ofChange fnAppendLetterAcceptsAndRoundTripsSpec)) fnAppendLetterAcceptsAndRoundTripsCard
/-- ITS FALSE NEIGHBOUR. Refute it at one input. -/
def FnAppendLetterAcceptsAndRoundTripsToldWrongFalsely : Prop := Claim7.holds Tryf.pinned (.plain (OpenSpec.ofChange fnAppendLetterAcceptsAndRoundTripsWrong)) fnAppendLetterAcceptsAndRoundTripsCard
end Rows
end Go.Proofs.Qxb6003874aFmt
