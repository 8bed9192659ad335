/-
  No cell of these rows narrows 'for every input' (looked for: loops, veiled, ifaces, maps, wideKeys, modest, calm, conditions, laid).
  DERIVED. THE GIVEN ROWS OF THIS SEAT. 2 by the template 'for every input the law returns true; each argument reads behind the call as it read before'; 0 by the template 'total and deterministic' (their statements: YbulkafkuTotals.lean).
  GIVEN WITH THE SEED: the statements are not yours to turn. If you find one false, say at which input.
  Laid BY PROGRAM, IN A SANDBOX (cutbox-rows.mjs): the forced cells as the released guide's own fill.sh prints them over the translation feb39cf71b41bcca… (all of the seat's roots in one cut). By AI agents, Wed Nov 11 2026. No macro, syntax, notation, axiom, sorry.
-/
import Derived.Test.YbulkafkuChecked
import GoSem.Claim
import GoSem.ClaimJoined
import GoSem.ClaimMapViews
import Derived.JoinedTies
import Derived.KernelRfl
namespace Go.Proofs.Ybulkafku
/- THE CELL 'sum', in the pinned program and in every row, IS THE sha256 OF THE DUMP (.gsa) THAT YbulkafkuProg.lean LOADS. Nothing in Lean hashes anything: it is a label: what it is worth is what the hold of that sum in a sandbox is worth. -/
noncomputable def Yba.pinned : Pinned := { name := "ybulkafku", sum := "feb39cf71b41bccaacb7453623abf933abb46cee8b42a4ff931cc6f30c3ba8cd", checked := Yba.checked }
namespace Rows
def none {H : Type} : Left H := { results := [], args := [] }

/-- 'pagewright.LawS1567BAllInOrder': WHATEVER THE INPUT: true; the input reads as it did. -/
def lawS1567BAllInOrderSpec : ChangeSpec := { name := "lawS1567BAllInOrder", fn := fun _ => fun
  | [d1, d2] => { results := [.lit (.bool true)], args := [d1, d2] }
  | _ => none }
def lawS1567BAllInOrderRow : OpenClaim := { program := "ybulkafku", sum := "feb39cf71b41bccaacb7453623abf933abb46cee8b42a4ff931cc6f30c3ba8cd", func := "example.com/pagewright/pagewright.LawS1567BAllInOrder", spec := "lawS1567BAllInOrder", unfollowed := true, recurses := true, apart := false }
def LawS1567BAllInOrderSaid : Prop := lawS1567BAllInOrderRow.holds Yba.pinned (OpenSpec.ofChange lawS1567BAllInOrderSpec)

/-- ITS FALSE NEIGHBOUR: 'it returns false'. Refute it at one input. -/
def lawS1567BAllInOrderWrong : ChangeSpec := { name := "lawS1567BAllInOrder", fn := fun _ => fun
  | [d1, d2] => { results := [.lit (.bool false)], args := [d1, d2] }
  | _ => none }
def LawS1567BAllInOrderWrongFalsely : Prop := lawS1567BAllInOrderRow.holds Yba.pinned (OpenSpec.ofChange lawS1567BAllInOrderWrong)

/-- 'pagewright.LawS1567BDeMorgan': WHATEVER THE INPUT: true; the input reads as it did. -/
def lawS1567BDeMorganSpec : ChangeSpec := { name := "lawS1567BDeMorgan", fn := fun _ => fun
  | [d] => { results := [.lit (.bool true)], args := [d] }
  | _ => none }
def lawS1567BDeMorganRow : OpenClaim := { program := "ybulkafku", sum := "feb39cf71b41bccaacb7453623abf933abb46cee8b42a4ff931cc6f30c3ba8cd", func := "example.com/pagewright/pagewright.LawS1567BDeMorgan", spec := "lawS1567BDeMorgan", unfollowed := true, recurses := true, apart := false }
def LawS1567BDeMorganSaid : Prop := lawS1567BDeMorganRow.holds Yba.pinned (OpenSpec.ofChange lawS1567BDeMorganSpec)

/-- ITS FALSE NEIGHBOUR: 'it returns false'. Refute it at one input. -/
def lawS1567BDeMorganWrong : ChangeSpec := { name := "lawS1567BDeMorgan", fn := fun _ => fun
  | [d] => { results := [.lit (.bool false)], args := [d] }
  | _ => none }
def LawS1567BDeMorganWrongFalsely : Prop := lawS1567BDeMorganRow.holds Yba.pinned (OpenSpec.ofChange lawS1567BDeMorganWrong)

end Rows
end Go.Proofs.Ybulkafku
