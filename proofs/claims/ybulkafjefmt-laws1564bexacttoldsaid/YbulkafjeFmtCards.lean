/-
  DERIVED. GIVEN WITH THE SEED: THE CARDS: each row of YbulkafjeFmtRows.lean that lists a variable, with what it lists TIED to the program's text (the seventh form; the later family's looks); each row that meets fmt, with fmt's text TOLD by the authors' own Lean function (tested against real Go, not proved from fmt's source: count such statements apart). THE CARD IS WHAT COUNTS. Prove the row's statement (the work); the ties are given (YbulkafjeFmtTie.lean); close each card by the builder's one call (the guide's Derived/Test/ToyasCard.lean, 'card_holds'). Laid BY PROGRAM, IN A SANDBOX (cutbox-door.mjs). By AI agents, Wed Nov 11 2026. No macro, syntax, notation, axiom, sorry.
-/
import Derived.Test.YbulkafjeFmtRows
import GoSem.ClaimSeven
namespace Go.Proofs.YbulkafjeFmt
namespace Rows

/-- THE TOLD AND TIED CARD OF 'cli.LawS1564BExact'. -/
def lawS1564BExactCard : Claim7 := { stood := { row := lawS1564BExactRow, standIns := [], harness := (true, "3fab78b4a847d5ea24d8ded71f22d2693cdf4f54abe434bc65d90bd50839ded9"), looks := false }, told := true, laidByText := true, laidKinds := [.data, .data, .data], laidTests := true, laidLooks := .later, goes := false }
def LawS1564BExactToldSaid : Prop := Claim7.holds Ybaf.pinned (.plain (OpenSpec.ofChange lawS1564BExactSpec)) lawS1564BExactCard
/-- ITS FALSE NEIGHBOUR. Refute it at one input. -/
def LawS1564BExactToldWrongFalsely : Prop := Claim7.holds Ybaf.pinned (.plain (OpenSpec.ofChange lawS1564BExactWrong)) lawS1564BExactCard

/-- THE TOLD AND TIED CARD OF 'cli.LawS1564BLines'. -/
def lawS1564BLinesCard : Claim7 := { stood := { row := lawS1564BLinesRow, standIns := [], harness := (true, "3fab78b4a847d5ea24d8ded71f22d2693cdf4f54abe434bc65d90bd50839ded9"), looks := false }, told := true, laidByText := true, laidKinds := [.data, .data, .data], laidTests := true, laidLooks := .later, goes := false }
def LawS1564BLinesToldSaid : Prop := Claim7.holds Ybaf.pinned (.plain (OpenSpec.ofChange lawS1564BLinesSpec)) lawS1564BLinesCard
/-- ITS FALSE NEIGHBOUR. Refute it at one input. -/
def LawS1564BLinesToldWrongFalsely : Prop := Claim7.holds Ybaf.pinned (.plain (OpenSpec.ofChange lawS1564BLinesWrong)) lawS1564BLinesCard
end Rows
end Go.Proofs.YbulkafjeFmt
