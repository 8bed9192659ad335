import Derived.Test.YbulkafjePlanRead
import Derived.Maps.OwnSet
namespace Go.Proofs.Ybulkafje
open Go.RowKit
open Go.Maps
namespace Plan

/-- How a pointer to the head of a block reads, for the map of the rounds. -/
def ptrElem : Value → Option (DataW Unit × List MemPlace)
  | .pointer none => some (.nil, [])
  | .pointer (some ⟨b, 0, none⟩) => some (.lit (.int .i64 b), [])
  | _ => none
def ptrData : Option Nat → DataW Unit
  | none => .nil
  | some b => .lit (.int .i64 b)
def ptrOf : Option Nat → Value
  | none => .pointer none
  | some b => .pointer (some ⟨b, 0, none⟩)
theorem ptrElem_inv {v : Value} {d : Option Nat} {ps : List MemPlace} (h : ptrElem v = some (ptrData d, ps)) : v = ptrOf d := by
  unfold ptrElem at h
  split at h
  · cases d with
    | none => rfl
    | some b => simp [ptrData] at h
  · cases d with
    | none => simp [ptrData] at h
    | some b =>
      simp [ptrData] at h
      simp only [ptrOf]
      congr 3
      omega
  · cases h

theorem law3 : Keyed Yba.prog 3 := int_keyed Yba.underlying3
theorem zero36 (w : World) : (zeroValue 36).run Yba.prog w = .ok (.pointer none) w := by kernel_rfl

/-- BLOCK bm OF w IS THE MAP OF THE ROUNDS: at key k it holds the pointer to block f k (nil where f k is none). -/
def Rounds (w : World) (bm n : Nat) (f : Int → Option Nat) : Prop :=
  ∃ D : DataW Unit, w.ownsMap Yba.prog 3 ptrElem bm n D ∧ IsMap D ∧ ∀ key : Int, D.atKey (.int .i64 key) .nil = ptrData (f key)

def upd (f : Int → Option Nat) (k : Int) (b : Nat) : Int → Option Nat := fun j => if j = k then some b else f j

theorem Rounds.made (w : World) : Rounds (w.alloc (.map #[] 0)) w.heap.size 0 (fun _ => none) :=
  ⟨_, World.ownsMap_made w _ _ _, isMap_empty, fun _ => rfl⟩

theorem Rounds.look {w : World} {bm n : Nat} {f : Int → Option Nat} (h : Rounds w bm n f) {k : Int} (hk : (Lit.int .i64 k).wf = true) :
    (Instr.lookup 32 (.map (some bm)) (.int .i64 k) false).run Yba.prog w = .ok (ptrOf (f k)) w := by
  obtain ⟨D, hown, _, hat⟩ := h
  obtain ⟨v, ps, hrun, hv⟩ := hown.lookup law3 Yba.underlying32 (zero36 w) (zd := .nil) (zp := []) rfl (keyOf_int_mk Yba.underlying3 hk)
  rw [hat k] at hv
  rw [hrun, ptrElem_inv hv]

theorem Rounds.store {w : World} {bm n : Nat} {f : Int → Option Nat} (h : Rounds w bm n f) (hn : n < maxLen) {k : Int} (hk : (Lit.int .i64 k).wf = true) (b : Nat) :
    ∃ w', (Instr.mapUpdate 32 (.map (some bm)) (.int .i64 k) (.pointer (some ⟨b, 0, none⟩))).run Yba.prog w = .ok () w' ∧ Rounds w' bm (n + 1) (upd f k b) ∧ w.grownBy w' (some bm) := by
  obtain ⟨D, hown, hm, hat⟩ := h
  obtain ⟨w', hrun, hown', hg⟩ := hown.update law3 Yba.underlying32 hn (keyOf_int_mk Yba.underlying3 hk) (val := .pointer (some ⟨b, 0, none⟩)) (d := .lit (.int .i64 b)) (ps := []) rfl
  refine ⟨w', hrun, ⟨_, hown', hm.put _ _, fun j => ?_⟩, hg⟩
  unfold upd
  by_cases hj : j = k
  · subst hj
    rw [if_pos rfl, atKey_put_same hm (by trivial)]
    rfl
  · rw [if_neg hj, atKey_put_other (by simp; exact hj), hat]

theorem Rounds.kept {w w' : World} {bm n : Nat} {f : Int → Option Nat} (h : Rounds w bm n f) (hb : w'.heap[bm]? = w.heap[bm]?) : Rounds w' bm n f := by
  obtain ⟨D, ⟨es, clock, h1, F, hs, hD⟩, hm, hat⟩ := h
  exact ⟨D, ⟨es, clock, hb.trans h1, F, hs, hD⟩, hm, hat⟩
theorem Rounds.lt {w : World} {bm n : Nat} {f : Int → Option Nat} (h : Rounds w bm n f) : bm < w.heap.size := by
  obtain ⟨D, hown, _⟩ := h
  exact hown.lt

/-! ### blocks of cells -/
def vals (l : List Int) : Array Value := (l.map (Value.int .u8)).toArray

theorem info25 : (Yba.prog.info? 25).map (fun i => (i.zero, i.size, i.bytes)) = some (some (.int .u8 0), 1, 1) := by kernel_rfl
theorem info4 : (Yba.prog.info? 4).map (fun i => (i.zero, i.size, i.bytes)) = some (some (.bool false), 1, 1) := by kernel_rfl

def newBools (N : Nat) : Array Value := madeCells #[.bool false] N

theorem made_vals (N : Nat) : madeCells #[.int .u8 0] N = vals (List.replicate N 0) := by
  unfold madeCells vals
  apply Array.ext
  · simp
  · intro i h1 h2
    have : i % 1 = 0 := Nat.mod_one i
    simp [this]

theorem run_make_vals (N : Nat) (h : N ≤ 12) (w : World) : (Instr.makeSlice 38 (.int .i64 N) (.int .i64 N)).run Yba.prog w = .ok (.slice (some ⟨w.heap.size, 0, none⟩) N N) (w.alloc (.cells (vals (List.replicate N 0)) 25)) := by
  obtain ⟨i0, hi, hz0, hz1, hz2⟩ := info_parts info25
  have := run_make (P := Yba.prog) w 38 25 i0 (.int .u8 0) Yba.underlying38 hi hz0 .i64 .i64 N N (by omega) (by omega) (by rw [hz2]; omega) (by omega)
  rw [this, hz1, ← made_vals]
  simp [Value.cells]
theorem run_make_bools (N : Nat) (h : N ≤ 12) (w : World) : (Instr.makeSlice 39 (.int .i64 N) (.int .i64 N)).run Yba.prog w = .ok (.slice (some ⟨w.heap.size, 0, none⟩) N N) (w.alloc (.cells (newBools N) 4)) := by
  obtain ⟨i0, hi, hz0, hz1, hz2⟩ := info_parts info4
  have := run_make (P := Yba.prog) w 39 4 i0 (.bool false) Yba.underlying39 hi hz0 .i64 .i64 N N (by omega) (by omega) (by rw [hz2]; omega) (by omega)
  rw [this, hz1]
  simp [Value.cells, newBools]

set_option maxHeartbeats 1000000 in
theorem round_old (ba bm n b : Nat) (f : Int → Option Nat) (k : Int) (w : World) (hm : w.cell? ⟨ba, 13, none⟩ = some (.map (some bm))) (hR : Rounds w bm n f) (hk : (Lit.int .i64 k).wf = true) (hf : f k = some b) :
    Calls Yba.prog 5 #[.pointer (some ⟨ba, 0, none⟩), .int .i64 k] w fun e w' => e = .returned (.pointer (some ⟨b, 0, none⟩)) ∧ w' = w := by
  have hl := hR.look hk
  rw [hf] at hl
  simp only [ptrOf] at hl
  go_enter Yba.func5, Yba.ntmps5
  go_wp2
  go_ret
  exact ⟨rfl, rfl⟩

theorem drew3 (w : World) (o1 o2 o3 : Obj) {wx : World} (h : (((w.alloc o1).alloc o2).alloc o3).drew = wx) :
    wx.heap[w.heap.size]? = some o1 ∧ wx.heap[w.heap.size + 1]? = some o2 ∧ wx.heap[w.heap.size + 1 + 1]? = some o3 ∧ w.grownBy wx none := by
  subst h
  have e1 : (w.alloc o1).heap.size = w.heap.size + 1 := by simp
  have e2 : ((w.alloc o1).alloc o2).heap.size = w.heap.size + 1 + 1 := by simp
  refine ⟨?_, ?_, ?_, ?_⟩
  · show (((w.alloc o1).alloc o2).alloc o3).heap[w.heap.size]? = _
    rw [heap_alloc_old (h := by omega), heap_alloc_old (h := by omega), heap_alloc_new]
  · show (((w.alloc o1).alloc o2).alloc o3).heap[w.heap.size + 1]? = _
    rw [heap_alloc_old (h := by omega), ← e1, heap_alloc_new]
  · show (((w.alloc o1).alloc o2).alloc o3).heap[w.heap.size + 1 + 1]? = _
    rw [← e2, heap_alloc_new]
  · have hh := (World.grownBy_alloc w o1 none).trans ((World.grownBy_alloc _ o2 none).trans (World.grownBy_alloc ((w.alloc o1).alloc o2) o3 none))
    exact ⟨hh.os, hh.tape, hh.output, hh.size, hh.block⟩

theorem grown_then {w w1 w2 : World} {row : Option Nat} (h1 : w.grownBy w1 none) (h2 : w1.grownBy w2 row) : w.grownBy w2 row :=
  ⟨h2.os.trans h1.os, h2.tape.trans h1.tape, h2.output.trans h1.output, Nat.le_trans h1.size h2.size, fun k hk hr => (h2.block k (Nat.lt_of_lt_of_le hk h1.size) hr).trans (h1.block k hk (by simp))⟩

set_option maxHeartbeats 1000000 in
theorem round_new (ba bm n N : Nat) (f : Int → Option Nat) (k : Int) (w : World) (hN : w.cell? ⟨ba, 0, none⟩ = some (.int .i64 N)) (hm : w.cell? ⟨ba, 13, none⟩ = some (.map (some bm))) (hR : Rounds w bm n f) (hk : (Lit.int .i64 k).wf = true) (hf : f k = none) (h12 : N ≤ 12) (hn : n < 100) :
    Calls Yba.prog 5 #[.pointer (some ⟨ba, 0, none⟩), .int .i64 k] w fun e w' => ∃ bs bv br, e = .returned (.pointer (some ⟨bs, 0, none⟩)) ∧ w.heap.size ≤ bs ∧ w.heap.size ≤ bv ∧ bs ≠ bv ∧
      w'.heap[bs]? = some (.cells #[.slice (some ⟨bv, 0, none⟩) N N, .bool false, .bool false, .slice (some ⟨br, 0, none⟩) N N] 41 (0, 0)) ∧ w'.heap[bv]? = some (.cells (vals (List.replicate N 0)) 25 (0, 0)) ∧
      Rounds w' bm (n + 1) (upd f k bs) ∧ w.grownBy w' (some bm) := by
  have hl := hR.look hk
  rw [hf] at hl
  simp only [ptrOf] at hl
  have hmv := run_make_vals N h12
  have hmb := run_make_bools N h12
  have hba : ba < w.heap.size := World.block_lt_of_cell? w _ hN
  go_enter Yba.func5, Yba.ntmps5
  go_wp2_with fail
  go_region
  · generalize hwx : (((w.alloc (Obj.cells (vals (List.replicate N 0)) 25)).alloc (Obj.cells (newBools N) 4)).alloc _).drew = wx
    obtain ⟨f1, f2, f3, hg⟩ := drew3 w _ _ _ hwx
    clear hwx
    have hm' : wx.cell? ⟨ba, 13, none⟩ = some (.map (some bm)) := hg.cell hm (by simp)
    obtain ⟨w4, hrun, hR4, hg4⟩ := (hR.kept (hg.block bm hR.lt (by simp))).store (by unfold maxLen; omega) hk (w.heap.size + 1 + 1)
    have hbm := hR.lt
    have hlt := hg4.size
    go_wp2
    go_ret
    exact ⟨w.heap.size + 1 + 1, w.heap.size, w.heap.size + 1, rfl, by omega, by omega, by omega, (hg4.block _ (lt_of_block f3) (by simp; omega)).trans f3, (hg4.block _ (lt_of_block f1) (by simp; omega)).trans f1, hR4, grown_then hg hg4⟩
  · generalize hwx : (((w.alloc (Obj.cells (newBools N) 4)).alloc (Obj.cells (vals (List.replicate N 0)) 25)).alloc _).drew = wx
    obtain ⟨f1, f2, f3, hg⟩ := drew3 w _ _ _ hwx
    clear hwx
    have hm' : wx.cell? ⟨ba, 13, none⟩ = some (.map (some bm)) := hg.cell hm (by simp)
    obtain ⟨w4, hrun, hR4, hg4⟩ := (hR.kept (hg.block bm hR.lt (by simp))).store (by unfold maxLen; omega) hk (w.heap.size + 1 + 1)
    have hbm := hR.lt
    have hlt := hg4.size
    go_wp2
    go_ret
    exact ⟨w.heap.size + 1 + 1, w.heap.size + 1, w.heap.size, rfl, by omega, by omega, by omega, (hg4.block _ (lt_of_block f3) (by simp; omega)).trans f3, (hg4.block _ (lt_of_block f2) (by simp; omega)).trans f2, hR4, grown_then hg hg4⟩
end Plan
end Go.Proofs.Ybulkafje
