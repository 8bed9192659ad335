/-
  No cell of these rows narrows 'for every input' (looked for: loops, veiled, ifaces, maps, wideKeys, modest, calm, conditions, laid).
  DERIVED. THE GIVEN ROWS OF THIS SEAT. 2 by the template 'for every input the law returns true; each argument reads behind the call as it read before'; 0 by the template 'total and deterministic' (their statements: YbulkafjeTotals.lean).
  GIVEN WITH THE SEED: the statements are not yours to turn. If you find one false, say at which input.
  Laid BY PROGRAM, IN A SANDBOX (cutbox-rows.mjs): the forced cells as the released guide's own fill.sh prints them over the translation 3044c341d8495bbe… (all of the seat's roots in one cut). By AI agents, Wed Nov 11 2026. No macro, syntax, notation, axiom, sorry.
-/
import Derived.Test.YbulkafjeChecked
import GoSem.Claim
import GoSem.ClaimJoined
import GoSem.ClaimMapViews
import Derived.JoinedTies
import Derived.KernelRfl
namespace Go.Proofs.Ybulkafje
/- THE CELL 'sum', in the pinned program and in every row, IS THE sha256 OF THE DUMP (.gsa) THAT YbulkafjeProg.lean LOADS. Nothing in Lean hashes anything: it is a label: what it is worth is what the hold of that sum in a sandbox is worth. -/
noncomputable def Yba.pinned : Pinned := { name := "ybulkafje", sum := "3044c341d8495bbe662eb3ad8e14656cc5bb3eac92fab04ec9022af26be036e8", checked := Yba.checked }
namespace Rows
def none {H : Type} : Left H := { results := [], args := [] }

/-- 'consensus.LawS1564APlan': WHATEVER THE INPUT: true; the input reads as it did. -/
def lawS1564APlanSpec : ChangeSpec := { name := "lawS1564APlan", fn := fun _ => fun
  | [d1, d2, d3, d4, d5, d6] => { results := [.lit (.bool true)], args := [d1, d2, d3, d4, d5, d6] }
  | _ => none }
def lawS1564APlanRow : OpenClaim := { program := "ybulkafje", sum := "3044c341d8495bbe662eb3ad8e14656cc5bb3eac92fab04ec9022af26be036e8", func := "example.com/unanimity/unanimity/pkg/consensus.LawS1564APlan", spec := "lawS1564APlan", apart := false }
def LawS1564APlanSaid : Prop := lawS1564APlanRow.holds Yba.pinned (OpenSpec.ofChange lawS1564APlanSpec)

/-- ITS FALSE NEIGHBOUR: 'it returns false'. Refute it at one input. -/
def lawS1564APlanWrong : ChangeSpec := { name := "lawS1564APlan", fn := fun _ => fun
  | [d1, d2, d3, d4, d5, d6] => { results := [.lit (.bool false)], args := [d1, d2, d3, d4, d5, d6] }
  | _ => none }
def LawS1564APlanWrongFalsely : Prop := lawS1564APlanRow.holds Yba.pinned (OpenSpec.ofChange lawS1564APlanWrong)

/-- 'deterministic.LawS1564CWords': WHATEVER THE INPUT: true; the input reads as it did. -/
def lawS1564CWordsSpec : ChangeSpec := { name := "lawS1564CWords", fn := fun _ => fun
  | [d] => { results := [.lit (.bool true)], args := [d] }
  | _ => none }
def lawS1564CWordsRow : OpenClaim := { program := "ybulkafje", sum := "3044c341d8495bbe662eb3ad8e14656cc5bb3eac92fab04ec9022af26be036e8", func := "example.com/unanimity/unanimity/pkg/deterministic.LawS1564CWords", spec := "lawS1564CWords", apart := false }
def LawS1564CWordsSaid : Prop := lawS1564CWordsRow.holds Yba.pinned (OpenSpec.ofChange lawS1564CWordsSpec)

/-- ITS FALSE NEIGHBOUR: 'it returns false'. Refute it at one input. -/
def lawS1564CWordsWrong : ChangeSpec := { name := "lawS1564CWords", fn := fun _ => fun
  | [d] => { results := [.lit (.bool false)], args := [d] }
  | _ => none }
def LawS1564CWordsWrongFalsely : Prop := lawS1564CWordsRow.holds Yba.pinned (OpenSpec.ofChange lawS1564CWordsWrong)

end Rows
end Go.Proofs.Ybulkafje
