/-
  DERIVED. GIVEN WITH THE SEED: THE CARDS: each row of YbulkafkuFmtRows.lean that lists a variable, with what it lists TIED to the program's text (the seventh form; the later family's looks); each row that meets fmt, with fmt's text TOLD by the authors' own Lean function (tested against real Go, not proved from fmt's source: count such statements apart). THE CARD IS WHAT COUNTS. Prove the row's statement (the work); the ties are given (YbulkafkuFmtTie.lean); close each card by the builder's one call (the guide's Derived/Test/ToyasCard.lean, 'card_holds'). Laid BY PROGRAM, IN A SANDBOX (cutbox-door.mjs). By AI agents, Wed Nov 11 2026. No macro, syntax, notation, axiom, sorry.
-/
import Derived.Test.YbulkafkuFmtRows
import GoSem.ClaimSeven
namespace Go.Proofs.YbulkafkuFmt
namespace Rows

/-- THE TOLD AND TIED CARD OF 'pagewright.LawS1567ACorrupt'. -/
def lawS1567ACorruptCard : Claim7 := { stood := { row := lawS1567ACorruptRow, standIns := [], harness := (true, "e7b13109def638d59dfd20046bfaa1b49c050e9e99e02c087cb2564a8e12a391"), looks := true }, told := true, laidByText := true, laidKinds := [.data, .wider, .pinned], laidTests := true, laidLooks := .later, goes := false }
def LawS1567ACorruptToldSaid : Prop := Claim7.holds Ybaf.pinned (.plain (OpenSpec.ofChange lawS1567ACorruptSpec)) lawS1567ACorruptCard
/-- ITS FALSE NEIGHBOUR. Refute it at one input. -/
def LawS1567ACorruptToldWrongFalsely : Prop := Claim7.holds Ybaf.pinned (.plain (OpenSpec.ofChange lawS1567ACorruptWrong)) lawS1567ACorruptCard

/-- THE TOLD AND TIED CARD OF 'pagewright.LawS1567CDecode'. -/
def lawS1567CDecodeCard : Claim7 := { stood := { row := lawS1567CDecodeRow, standIns := [], harness := (true, "e7b13109def638d59dfd20046bfaa1b49c050e9e99e02c087cb2564a8e12a391"), looks := true }, told := true, laidByText := true, laidKinds := [.sentinel], laidTests := true, laidLooks := .later, goes := false }
def LawS1567CDecodeToldSaid : Prop := Claim7.holds Ybaf.pinned (.plain (OpenSpec.ofChange lawS1567CDecodeSpec)) lawS1567CDecodeCard
/-- ITS FALSE NEIGHBOUR. Refute it at one input. -/
def LawS1567CDecodeToldWrongFalsely : Prop := Claim7.holds Ybaf.pinned (.plain (OpenSpec.ofChange lawS1567CDecodeWrong)) lawS1567CDecodeCard

/-- THE TOLD AND TIED CARD OF 'pagewright.LawS1567CTextRoundTrip'. -/
def lawS1567CTextRoundTripCard : Claim7 := { stood := { row := lawS1567CTextRoundTripRow, standIns := [], harness := (true, "e7b13109def638d59dfd20046bfaa1b49c050e9e99e02c087cb2564a8e12a391"), looks := true }, told := true, laidByText := true, laidKinds := [.sentinel], laidTests := true, laidLooks := .later, goes := false }
def LawS1567CTextRoundTripToldSaid : Prop := Claim7.holds Ybaf.pinned (.plain (OpenSpec.ofChange lawS1567CTextRoundTripSpec)) lawS1567CTextRoundTripCard
/-- ITS FALSE NEIGHBOUR. Refute it at one input. -/
def LawS1567CTextRoundTripToldWrongFalsely : Prop := Claim7.holds Ybaf.pinned (.plain (OpenSpec.ofChange lawS1567CTextRoundTripWrong)) lawS1567CTextRoundTripCard
end Rows
end Go.Proofs.YbulkafkuFmt
