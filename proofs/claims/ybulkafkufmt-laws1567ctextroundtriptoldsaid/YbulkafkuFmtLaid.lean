/-
  THE LISTED SENTINEL: a world in which it lies as listed; closed facts on it and on the program.
-/
import Derived.Test.YbulkafkuFmtText
import Derived.Test.YbulkafkuFmtTie
import Derived.Test.YbulkafkuFmtCards
import Derived.ProofKit
import Derived.OpenShut
import Derived.OpenVars
import Derived.ShutString
import Derived.Stop.JoinedAt
import Derived.Stop.Texts
import Derived.Stop.JoinedTold
import Derived.Stop.FmtTextKit
import Derived.Stop.FmtTextVerbs
import Derived.Stop.LaidErr
import Derived.SizedLaws
import Derived.Deep.DeepWitnessRef
import Derived.LaidLaws
import Derived.SevenTiedAt
namespace Go.Proofs.YbulkafkuFmt
open Go.ChangeShapes Go.WideShapes Go.ChangeAt Go.RowKit Go.Kit
open Go.ChangeMaps (open_string shut_string)
open Go.Extern.Stop Go.Stop Go.Extern

theorem own : ownKnob Ybaf.prog.godebug = none := by kernel_rfl
theorem laidOut : laidOutB Ybaf.pinned.checked.prog = true := by kernel_rfl
theorem stops : Ybaf.pinned.checked.prog.stops = Rows.lawS1567CDecodeRow.stops := by kernel_rfl
theorem stopKnobs : Ybaf.pinned.checked.prog.stopKnobs = [] := by kernel_rfl
theorem quiet (os : Os) : Stop.quiet Ybaf.pinned.checked.prog os := by
  intro k hk
  rw [stopKnobs] at hk
  cases hk

/-- The one variable that the rows list. -/
abbrev errName : String := Rows.lawS1567CDecodeSpec.vars.headD ""
theorem gErr : Ybaf.prog.globalNamed errName = some 1 := by kernel_rfl
theorem gErrType : (Ybaf.prog.globals[1]?).map (·.type) = some 40 := by kernel_rfl
theorem cells101 : Ybaf.prog.cellsOf 101 = 1 := by kernel_rfl
theorem cells9 : Ybaf.prog.cellsOf 9 = 1 := by kernel_rfl

/-! ### One start that fits: the sentinel as its initialiser lays it -/
abbrev errS : ByteArray := { data := #[109, 97, 108, 102, 111, 114, 109, 101, 100, 32, 114, 101, 99, 111, 114, 100] }
/-- The settled world with one block more, an errors.errorString; the variable holds a pointer to it. -/
def layIn (w0 : World) (n : Nat) : World :=
  { w0 with heap := w0.heap.modify 1 fun
      | .cells _ t frozen => .cells #[.iface 99 (.pointer (some ⟨n, 0, none⟩))] t frozen
      | o => o }
set_option maxRecDepth 1000000 in
theorem laid_met (os : Os) (args : Array Value) : laidMetH Ybaf.prog Rows.lawS1567CDecodeRow.laid ((layIn (World.holding Ybaf.prog os ⟨#[.cells #[.string errS] 101], #[], []⟩) ((World.holding Ybaf.prog os ⟨#[], #[], []⟩).heap.size)).forCall (fun _ _ => 0) ⟨#[], args, []⟩).memory :=
  laidMet_of_run' (P := Ybaf.prog) 10 (by kernel_rfl) (by kernel_rfl)
end Go.Proofs.YbulkafkuFmt
