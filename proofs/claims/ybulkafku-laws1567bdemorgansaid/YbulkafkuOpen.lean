/-
  THE ARGUMENTS OF THE TWO LAWS, OPENED; the ways on which a slice is too long.
-/
import Derived.Test.YbulkafkuRows
import Derived.WalkKit
import Derived.ProofKit
import Derived.OpenShut
import Derived.Deep.Grids
import Derived.Test.YbulkafkuMorganWalk
import Derived.Test.YbulkafkuOrderWalk
namespace Go.Proofs.Ybulkafku
open Go.ChangeShapes Go.WideShapes Go.ChangeAt Go.RowKit

theorem laidOut : laidOutB Yba.prog = true := by kernel_rfl
theorem cells4 : Yba.prog.cellsOf 4 = 1 := by kernel_rfl
theorem cells2 : Yba.prog.cellsOf 2 = 1 := by kernel_rfl

theorem answers_open {H : Type} {enc : TypeId × Value → H} {W : World} {fuel : Nat} {a0 : Option Addr} {len cap : Nat} {x : DataW H × List MemPlace} (h : DataW.trod enc Yba.prog W 0 (fun _ => true) true fuel 22 [.slice a0 len cap] = some x) :
    ∃ (qs : List Bool) (ad : Nat → Addr), qs.length = len ∧ (∀ i, i < qs.length → ∀ w' : World, (Instr.indexAt 22 (.slice a0 qs.length cap) (.int .i64 i)).run Yba.prog w' = .ok (.pointer (some (ad i))) w') ∧
      (∀ i a, qs[i]? = some a → W.cell? (ad i) = some (.bool a) ∧ (ad i).block < W.heap.size) := by
  rcases Go.Deep.open_bools Yba.underlying22 Yba.underlying4 cells4 h with ⟨hcs, _⟩ | ⟨a, len', cap', B, hcs, _, hl, _, _, hcell⟩
  · simp at hcs
    obtain ⟨rfl, rfl, rfl⟩ := hcs
    exact ⟨[], fun _ => ⟨0, 0, none⟩, rfl, fun i h => by simp at h, fun i a h => by simp at h⟩
  · simp at hcs
    obtain ⟨rfl, rfl, rfl⟩ := hcs
    have hln : ((List.range len).map B).length = len := by simp
    refine ⟨(List.range len).map B, fun i => a.add i, hln, fun i hi w' => ?_, fun i b hb => ?_⟩
    · rw [hln] at hi ⊢
      exact index_arg (t := 22) (by kernel_rfl) (fun w' => by kernel_rfl) a len cap i hi w'
    · have hi : i < len := by
        have := (List.getElem?_eq_some_iff.1 hb).1
        omega
      have hb2 : B i = b := by simpa [hi] using hb
      have hc := hcell i (by omega)
      rw [hb2] at hc
      exact ⟨hc, World.block_lt_of_cell? _ _ hc⟩

theorem vals_open {H : Type} {enc : TypeId × Value → H} {W : World} {fuel : Nat} {a0 : Option Addr} {len cap : Nat} {x : DataW H × List MemPlace} (h : DataW.trod enc Yba.prog W 0 (fun _ => true) true fuel 23 [.slice a0 len cap] = some x) (hL : len ≤ 1024) :
    Calls Yba.prog 5 #[.slice a0 len cap] W fun e w' => (∃ ao c, e = .returned (.slice ao len c)) ∧ Below W.heap.size W w' := by
  rcases open_ints Yba.underlying23 Yba.underlying2 cells2 h with ⟨hcs, _⟩ | ⟨a, len', cap', zs, hcs, _, hl, _, hz, _, hcell, _⟩
  · simp at hcs
    obtain ⟨rfl, rfl, rfl⟩ := hcs
    exact brow_nil W
  · simp at hcs
    obtain ⟨rfl, rfl, rfl⟩ := hcs
    simp only [if_true] at hz
    exact brow_some a len cap W hL (fun i hi => ⟨_, hcell i (by omega), World.block_lt_of_cell? _ _ (hcell i (by omega))⟩)

set_option maxRecDepth 100000 in
theorem morgan_big (ao : Option Addr) (L c : Nat) (w : World) (hb : 1024 < L) :
    Calls Yba.prog 4 #[.slice ao L c] w fun e w' => e = .returned (.bool true) ∧ Below w.heap.size w w' := by
  go_enter Yba.func4, Yba.ntmps4
  go_wp2
  go_ret
  exact ⟨rfl, Below.refl _ _⟩

set_option maxRecDepth 100000 in
theorem order_big (ao vo : Option Addr) (L c M d : Nat) (w : World) (hb : 1024 < L ∨ 1024 < M) :
    Calls Yba.prog 3 #[.slice ao L c, .slice vo M d] w fun e w' => e = .returned (.bool true) ∧ Below w.heap.size w w' := by
  by_cases h1 : 1024 < L
  · have hd1 : decide ((1024 : Int) < (L : Nat)) = true := by rw [decide_eq_true_iff]; omega
    go_enter Yba.func3, Yba.ntmps3
    go_wp2
    go_ret
    exact ⟨rfl, Below.refl _ _⟩
  · have hd1 : decide ((1024 : Int) < (L : Nat)) = false := by rw [decide_eq_false_iff_not]; omega
    have h2 : 1024 < M := by omega
    have hd2 : decide ((1024 : Int) < (M : Nat)) = true := by rw [decide_eq_true_iff]; omega
    go_enter Yba.func3, Yba.ntmps3
    go_wp2
    go_ret
    exact ⟨rfl, Below.refl _ _⟩
end Go.Proofs.Ybulkafku
