/-
  fmt's THREE TEXTS, TOLD; THE LISTED TABLES: from the row's condition to what Itoa asks; a world in which they lie as listed.
-/
import Derived.Test.YbulkafjeFmtExactWalk
import Derived.Test.YbulkafjeFmtTie
import Derived.Test.YbulkafjeFmtCards
import Derived.ProofKit
import Derived.OpenShut
import Derived.ShutString
import Derived.Stop.JoinedAt
import Derived.Stop.Texts
import Derived.Stop.JoinedTold
import Derived.Stop.FmtTextKit
import Derived.Stop.FmtTextVerbs
import Derived.Stop.LaidErr
import Derived.Lib.LaidTab
import Derived.SizedLaws
import Derived.Deep.DeepWitnessRef
import Derived.LaidLaws
import Derived.SevenTiedAt
namespace Go.Proofs.YbulkafjeFmt
open Go.ChangeShapes Go.WideShapes Go.ChangeAt Go.RowKit Go.Kit
open Go.ChangeMaps (open_string shut_string)
open Go.Extern.Stop Go.Stop Go.Extern

theorem own : ownKnob Ybaf.prog.godebug = none := by kernel_rfl

theorem parseP : (FmtText.parse [112, 114, 111, 116, 111, 99, 111, 108, 32, 37, 115, 10]).map FmtText.glue = some [.lit [112, 114, 111, 116, 111, 99, 111, 108, 32], .verb {} 115, .lit [10]] := by rfl
theorem parseN : (FmtText.parse [110, 32, 37, 100, 10]).map FmtText.glue = some [.lit [110, 32], .verb {} 100, .lit [10]] := by rfl
theorem parseT : (FmtText.parse [116, 32, 37, 100, 10]).map FmtText.glue = some [.lit [116, 32], .verb {} 100, .lit [10]] := by rfl

theorem textP (x : ByteArray) (hs : x.data.toList.length < 2 ^ 64) : FmtText.text "fmt.Sprintf" (rdP x) = some (lineP x.data.toList) := by
  have hn := FmtText.operand_str_at (sh := shape9) rfl rfl x.data.toList hs
  rw [rdP, FmtText.text_sprintf_glued parseP (FmtText.operands_cons hn FmtText.operands_nil)]
  simp [FmtText.render, FmtText.printArg_s_str, lineP]
theorem textN (n : Int) (hw : (Lit.int .i64 n).wf = true) : FmtText.text "fmt.Sprintf" (rdN n) = some (lineN n) := by
  have hn := FmtText.operand_int_at (sh := shape3) (k := .i64) rfl rfl n hw
  rw [rdN, FmtText.text_sprintf_glued parseN (FmtText.operands_cons hn FmtText.operands_nil)]
  simp [FmtText.render, FmtText.printArg_d _ _ hw, lineN]
theorem textT (n : Int) (hw : (Lit.int .i64 n).wf = true) : FmtText.text "fmt.Sprintf" (rdT n) = some (lineT n) := by
  have hn := FmtText.operand_int_at (sh := shape3) (k := .i64) rfl rfl n hw
  rw [rdT, FmtText.text_sprintf_glued parseT (FmtText.operands_cons hn FmtText.operands_nil)]
  simp [FmtText.render, FmtText.printArg_d _ _ hw, lineT]

theorem told_bytes (F : Interp) {rd : List (List UInt8)} {T : List UInt8} (h : FmtText.text "fmt.Sprintf" rd = some T) (hl : T.length < 2 ^ 63) : FmtStop.textOf (F.told "fmt.Sprintf" rd 0) = ⟨T.toArray⟩ := by
  have h1 := told_string F h hl
  have h2 := textOf_list F.told "fmt.Sprintf" rd
  rw [h1] at h2
  apply ByteArray.ext
  rw [← h2]

/-! ### the listed tables -/
theorem pow10_data : (Rows.laid_internal_strconv_uint64pow10 : DataW Unit) = Lib.tabData .u64 Lib.pow10Tab := by kernel_rfl

theorem tab_of_laid {W : World} (h : laidMetH Ybaf.prog Rows.lawS1564BExactRow.laid W) : Lib.TabBelow Ybaf.prog W.heap.size W tabName .u64 Lib.pow10Tab := by
  have h' : laidMet Ybaf.prog Rows.lawS1564BExactRow.laid W := h
  have h3 : laidMet Ybaf.prog [(tabName, Lib.tabData .u64 Lib.pow10Tab)] W := by
    rw [← pow10_data]
    exact h'.tail.tail
  exact Lib.tabBelow_of_tabIs (Lib.tabIs_of_head (g := 0) (t := 53) (e := 46) (n := 20) (by kernel_rfl) (by kernel_rfl) (by kernel_rfl) (by kernel_rfl) (by kernel_rfl) (by kernel_rfl) h3)

/-- What a table's datum lays in its cells. -/
def cellsIn : DataW Unit → Array Value
  | .agg l => (l.map fun d => match d with
    | .lit (.int k n) => Value.int k n
    | _ => Value.bool false).toArray
  | _ => #[]
/-- The three variables' cells laid. -/
def layIn (w0 : World) : World :=
  let put (h : Array Obj) (g : Nat) (cs : Array Value) : Array Obj := h.modify g fun
    | .cells _ t frozen => .cells cs t frozen
    | o => o
  { w0 with heap := put (put (put w0.heap 0 (cellsIn Rows.laid_internal_strconv_uint64pow10)) 1 (cellsIn Rows.laid_math_bits_deBruijn32tab)) 2 (cellsIn Rows.laid_math_bits_deBruijn64tab) }

set_option maxRecDepth 1000000 in
theorem laid_met (os : Os) (args : Array Value) : laidMetH Ybaf.prog Rows.lawS1564BExactRow.laid ((layIn (World.holding Ybaf.prog os ⟨#[], #[], []⟩)).forCall (fun _ _ => 0) ⟨#[], args, []⟩).memory :=
  laidMet_of_run' (P := Ybaf.prog) 10 (by kernel_rfl) (by kernel_rfl)
end Go.Proofs.YbulkafjeFmt
