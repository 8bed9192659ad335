/-
  BLOCKS OF MEMORY, for the walks of 'LawS1564APlan': what a block holds, what stays behind stores and new blocks. Plain lists of values put at listed places.
-/
import Derived.Test.YbulkafjePlanRound
namespace Go.Proofs.Ybulkafje
open Go.RowKit
namespace Plan

/-- Of the blocks of w, those outside S are in w' as they were. -/
structure But (S : List Nat) (w w' : World) : Prop where
  os : w'.os = w.os
  tape : w'.tape = w.tape
  output : w'.output = w.output
  size : w.heap.size ≤ w'.heap.size
  block : ∀ b, b < w.heap.size → b ∉ S → w'.heap[b]? = w.heap[b]?

theorem But.refl (S : List Nat) (w : World) : But S w w := ⟨rfl, rfl, rfl, Nat.le_refl _, fun _ _ _ => rfl⟩
theorem But.trans {S : List Nat} {a b c : World} (h : But S a b) (k : But S b c) : But S a c :=
  ⟨k.os.trans h.os, k.tape.trans h.tape, k.output.trans h.output, Nat.le_trans h.size k.size, fun i hi hn => (k.block i (Nat.lt_of_lt_of_le hi h.size) hn).trans (h.block i hi hn)⟩
theorem But.drew {S : List Nat} {a w : World} (h : But S a w) : But S a w.drew := ⟨h.os, h.tape, h.output, h.size, h.block⟩
theorem But.drewN {S : List Nat} {a w : World} (h : But S a w) (n : Nat) : But S a (w.drewN n) := ⟨h.os, h.tape, h.output, h.size, h.block⟩
theorem But.alloc {S : List Nat} {a w : World} (h : But S a w) (o : Obj) : But S a (w.alloc o) :=
  h.trans ⟨rfl, rfl, rfl, by simp, fun k hk _ => Below.heap_alloc _ _ _ hk⟩
theorem But.setCell {S : List Nat} {a w : World} (h : But S a w) {p : Addr} (hp : p.block ∈ S ∨ a.heap.size ≤ p.block) (u : Value) : But S a (w.setCell p u) :=
  ⟨h.os, h.tape, h.output, by have := h.size; simp [World.setCell]; exact this, fun k hk hn => by
    rw [Below.heap_setCell _ _ _ _ (by intro e; subst e; rcases hp with hp | hp; exact hn hp; omega)]; exact h.block k hk hn⟩
theorem But.grown {S : List Nat} {a w w' : World} {row : Option Nat} (h : But S a w) (hg : w.grownBy w' row) (hr : ∀ k, row = some k → k ∈ S ∨ a.heap.size ≤ k) : But S a w' :=
  ⟨hg.os.trans h.os, hg.tape.trans h.tape, hg.output.trans h.output, Nat.le_trans h.size hg.size, fun k hk hn => by
    rw [hg.block k (Nat.lt_of_lt_of_le hk h.size) (by intro e; rcases hr k e.symm with h' | h'; exact hn h'; omega)]; exact h.block k hk hn⟩
theorem But.mono {S T : List Nat} {a w : World} (h : But S a w) (hs : ∀ b, b < a.heap.size → b ∈ S → b ∈ T) : But T a w :=
  ⟨h.os, h.tape, h.output, h.size, fun k hk hn => h.block k hk (fun e => hn (hs k hk e))⟩
theorem But.after {S T : List Nat} {a b c : World} (h : But S a b) (k : But T b c) (hT : ∀ i, i < a.heap.size → i ∈ T → i ∈ S) : But S a c :=
  ⟨k.os.trans h.os, k.tape.trans h.tape, k.output.trans h.output, Nat.le_trans h.size k.size, fun i hi hn => (k.block i (Nat.lt_of_lt_of_le hi h.size) (fun e => hn (hT i hi e))).trans (h.block i hi hn)⟩
theorem But.below {a w : World} {S : List Nat} {B : Nat} (h : But S a w) (hB : B ≤ a.heap.size) (hS : ∀ b, b ∈ S → B ≤ b) : Below B a w :=
  ⟨h.os, h.tape, h.output, h.size, fun k hk => h.block k (by omega) (fun e => by have := hS k e; omega)⟩

/-! ### a block of cells -/
theorem cell_blk {w : World} {b i : Nat} {cs : Array Value} {t : TypeId} {fz : Nat × Nat} {v : Value} (h : w.heap[b]? = some (.cells cs t fz)) (hv : cs[i]? = some v) : w.cell? ⟨b, i, none⟩ = some v := by
  simp [World.cell?, h, hv]
theorem free_blk {w : World} {b i : Nat} {cs : Array Value} {t : TypeId} (h : w.heap[b]? = some (.cells cs t (0, 0))) : w.frozen? ⟨b, i, none⟩ = false := by
  simp [World.frozen?, h]
theorem set_blk {w : World} {b i : Nat} {cs : Array Value} {t : TypeId} {fz : Nat × Nat} {v : Value} (h : w.heap[b]? = some (.cells cs t fz)) : (w.setCell ⟨b, i, none⟩ v).heap[b]? = some (.cells (cs.setIfInBounds i v) t fz) := by
  have hlt := lt_of_block h
  have h' : w.heap[b] = .cells cs t fz := by simpa [Array.getElem?_eq_getElem hlt] using h
  show (w.heap.modify b _)[b]? = _
  rw [Array.getElem?_eq_getElem (by simpa using hlt), Array.getElem_modify_self, h']
  rfl

/-! ### the values of a round, process by process -/
theorem vals_at {L : List Int} {i : Nat} (h : i < L.length) : (vals L)[i]? = some (.int .u8 (L.getD i 0)) := by
  simp [vals, h]
theorem vals_set (L : List Int) (i : Nat) (x : Int) : (vals L).setIfInBounds i (.int .u8 x) = vals (L.set i x) := by
  simp [vals, List.map_set]

/-! ### a row of process numbers -/
/-- The slice value '.slice a ..' has the elements xs in block g. -/
def Row (w : World) (a : Option Addr) (g : Nat) (xs : List Nat) : Prop :=
  xs ≠ [] → a = some ⟨g, 0, none⟩ ∧ ∃ cur : Array Value, w.heap[g]? = some (.cells cur 3 (0, 0)) ∧ ∀ (i x : Nat), xs[i]? = some x → cur[i]? = some (Value.int .i64 (x : Int))

theorem Row.kept' {w w' : World} {a : Option Addr} {g : Nat} {xs : List Nat} (h : Row w a g xs) (hb : xs ≠ [] → w'.heap[g]? = w.heap[g]?) : Row w' a g xs := by
  intro hx
  obtain ⟨h1, cur, h2, h3⟩ := h hx
  exact ⟨h1, cur, (hb hx).trans h2, h3⟩
theorem Row.kept {w w' : World} {a : Option Addr} {g : Nat} {xs : List Nat} (h : Row w a g xs) (hb : w'.heap[g]? = w.heap[g]?) : Row w' a g xs := h.kept' (fun _ => hb)
/-- A row's block is no block of another element type, and no map. -/
theorem Row.ne {w : World} {a : Option Addr} {g : Nat} {xs : List Nat} (h : Row w a g xs) (hx : xs ≠ []) {b : Nat} {cs : Array Value} {t : TypeId} {fz : Nat × Nat} (hb : w.heap[b]? = some (.cells cs t fz)) (ht : t ≠ 3) : g ≠ b := by
  obtain ⟨_, cur, h2, _⟩ := h hx
  rintro rfl
  rw [h2] at hb
  simp at hb
  exact ht hb.2.1.symm
theorem Row.lt {w : World} {a : Option Addr} {g : Nat} {xs : List Nat} (h : Row w a g xs) (hx : xs ≠ []) : g < w.heap.size := by
  obtain ⟨_, cur, h2, _⟩ := h hx
  exact lt_of_block h2
theorem Rounds.ne {w : World} {bm n : Nat} {f : Int → Option Nat} (h : Rounds w bm n f) {b : Nat} {cs : Array Value} {t : TypeId} {fz : Nat × Nat} (hb : w.heap[b]? = some (.cells cs t fz)) : b ≠ bm := by
  obtain ⟨D, ⟨es, clock, h1, _⟩, _⟩ := h
  rintro rfl
  rw [h1] at hb
  simp at hb
theorem Row.neMap {w : World} {a : Option Addr} {g : Nat} {xs : List Nat} (h : Row w a g xs) (hx : xs ≠ []) {bm n : Nat} {f : Int → Option Nat} (hR : Rounds w bm n f) : g ≠ bm := by
  obtain ⟨_, cur, h2, _⟩ := h hx
  exact hR.ne h2
theorem Row.cell {w : World} {a : Option Addr} {g : Nat} {xs : List Nat} (h : Row w a g xs) {i : Nat} (hi : i < xs.length) : w.cell? ⟨g, i, none⟩ = some (.int .i64 (xs.getD i 0 : Nat)) := by
  obtain ⟨_, cur, h2, h3⟩ := h (by intro e; subst e; simp at hi)
  exact cell_blk h2 (h3 i _ (by simp [hi]))
theorem Row.index {w : World} {a : Option Addr} {g : Nat} {xs : List Nat} (h : Row w a g xs) {i : Nat} (hi : i < xs.length) (c : Nat) (w' : World) :
    (Instr.indexAt 23 (.slice a xs.length c) (.int .i64 i)).run Yba.prog w' = .ok (.pointer (some ⟨g, i, none⟩)) w' := by
  obtain ⟨h1, _⟩ := h (by intro e; subst e; simp at hi)
  subst h1
  rw [run_indexAt_slice _ _ _ _ _ _ _ (by kernel_rfl), if_pos (by omega)]
  have e3 : Yba.prog.elem 23 = 3 := by kernel_rfl
  have hs : (sizeOf 3).run Yba.prog w' = .ok 1 w' := by kernel_rfl
  rw [e3, hs]
  simp [Result.andThen, Addr.add_lit]

/-! ### values put at listed places, one a round -/
def putN (L : List Int) (fs : List Nat) (g : Nat → Int) : Nat → List Int
  | 0 => L
  | i + 1 => (putN L fs g i).set (fs.getD i 0) (g i)
theorem putN_length (L : List Int) (fs : List Nat) (g : Nat → Int) (i : Nat) : (putN L fs g i).length = L.length := by
  induction i with
  | zero => rfl
  | succ i ih => simp [putN, ih]
theorem putN_other (L : List Int) (fs : List Nat) (g : Nat → Int) (p : Nat) : ∀ i, i ≤ fs.length → (∀ j, j < fs.length → fs.getD j 0 ≠ p) → (putN L fs g i).getD p 0 = L.getD p 0
  | 0, _, _ => rfl
  | i + 1, hi, h => by
    have := putN_other L fs g p i (by omega) h
    have hne := h i (by omega)
    simp only [putN, List.getD_eq_getElem?_getD] at this ⊢
    rw [List.getElem?_set_ne (by simpa [List.getD_eq_getElem?_getD] using hne), this]
theorem putN_at (L : List Int) (fs : List Nat) (g : Nat → Int) (hd : ∀ i j, i < j → j < fs.length → fs.getD i 0 ≠ fs.getD j 0) (hl : ∀ j, j < fs.length → fs.getD j 0 < L.length) (j : Nat) :
    ∀ i, i ≤ fs.length → j < i → (putN L fs g i).getD (fs.getD j 0) 0 = g j
  | 0, _, hj => absurd hj (Nat.not_lt_zero _)
  | i + 1, hi, hj => by
    by_cases e : j = i
    · subst e
      simp only [putN, List.getD_eq_getElem?_getD]
      rw [List.getElem?_set_self (by rw [putN_length]; have := hl j (by omega); simpa [List.getD_eq_getElem?_getD] using this)]
      rfl
    · have := putN_at L fs g hd hl j i (by omega) (by omega)
      have hne := hd j i (by omega) (by omega)
      simp only [putN, List.getD_eq_getElem?_getD] at this ⊢
      rw [List.getElem?_set_ne (by simpa [List.getD_eq_getElem?_getD] using hne.symm), this]

/-! ### how many of a list of bits are nought, how many not -/
def nz (l : List Int) : Nat := (l.filter (fun b => b == 0)).length
def no (l : List Int) : Nat := (l.filter (fun b => b != 0)).length
theorem nz_le (l : List Int) : nz l ≤ l.length := List.length_filter_le _ _
theorem no_le (l : List Int) : no l ≤ l.length := List.length_filter_le _ _
theorem nz_take (l : List Int) (i : Nat) (h : i < l.length) : nz (l.take (i + 1)) = nz (l.take i) + if l.getD i 0 = 0 then 1 else 0 := by
  unfold nz
  rw [List.take_succ_eq_append_getElem h, List.filter_append, List.length_append]
  simp only [List.getD_eq_getElem?_getD, List.getElem?_eq_getElem h, Option.getD_some]
  by_cases e : l[i] = 0 <;> simp [e]
theorem no_take (l : List Int) (i : Nat) (h : i < l.length) : no (l.take (i + 1)) = no (l.take i) + if l.getD i 0 = 0 then 0 else 1 := by
  unfold no
  rw [List.take_succ_eq_append_getElem h, List.filter_append, List.length_append]
  simp only [List.getD_eq_getElem?_getD, List.getElem?_eq_getElem h, Option.getD_some]
  by_cases e : l[i] = 0 <;> simp [e]
end Plan
end Go.Proofs.Ybulkafje
