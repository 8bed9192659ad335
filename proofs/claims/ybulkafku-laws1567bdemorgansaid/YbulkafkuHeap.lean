/-
  BLOCKS OF MEMORY, for the walks of the laws over 'and.holds' and 'or.holds': the log, the terms, what stays behind a term's answer.
-/
import Derived.Test.YbulkafkuRows
import Derived.WalkKit
import Derived.WalkSpells
import Derived.WalkLawsBesides
import Derived.Deep.RegionHeld3
import Derived.Deep.AppendLies
import Derived.Deep.CutBlock
import Derived.Maps.AppendAt
namespace Go.Proofs.Ybulkafku
open Go.RowKit

theorem hide {p : Prop} (h : p) : Hid p := h

theorem cell_blk {w : World} {b i : Nat} {cs : Array Value} {t : TypeId} {fz : Nat × Nat} {v : Value} (h : w.heap[b]? = some (.cells cs t fz)) (hv : cs[i]? = some v) : w.cell? ⟨b, i, none⟩ = some v := by
  simp [World.cell?, h, hv]
theorem free_blk {w : World} {b i : Nat} {cs : Array Value} {t : TypeId} (h : w.heap[b]? = some (.cells cs t (0, 0))) : w.frozen? ⟨b, i, none⟩ = false := by
  simp [World.frozen?, h]
theorem set_blk {w : World} {b i : Nat} {cs : Array Value} {t : TypeId} {fz : Nat × Nat} {v : Value} (h : w.heap[b]? = some (.cells cs t fz)) : (w.setCell ⟨b, i, none⟩ v).heap[b]? = some (.cells (cs.setIfInBounds i v) t fz) := by
  have hlt := lt_of_block h
  have h' : w.heap[b] = .cells cs t fz := by simpa [Array.getElem?_eq_getElem hlt] using h
  show (w.heap.modify b _)[b]? = _
  rw [Array.getElem?_eq_getElem (by simpa using hlt), Array.getElem_modify_self, h']
  rfl

theorem grown_then {w w1 w2 : World} {row : Option Nat} (h1 : w.grownBy w1 none) (h2 : w1.grownBy w2 row) : w.grownBy w2 row :=
  ⟨h2.os.trans h1.os, h2.tape.trans h1.tape, h2.output.trans h1.output, Nat.le_trans h1.size h2.size, fun k hk hr => (h2.block k (Nat.lt_of_lt_of_le hk h1.size) hr).trans (h1.block k hk (by simp))⟩
theorem grown_refl (w : World) (row : Option Nat) : w.grownBy w row := ⟨rfl, rfl, rfl, Nat.le_refl _, fun _ _ _ => rfl⟩

/-- What was there in w is there in w', but for the log's variable (type 26) and its row (element type 3); below B nothing has turned. -/
structure Kept (B : Nat) (w w' : World) : Prop where
  below : Below B w w'
  old : ∀ (b : Nat) (cs : Array Value) (t : TypeId) (fz : Nat × Nat), w.heap[b]? = some (.cells cs t fz) → t ≠ 26 → t ≠ 3 → w'.heap[b]? = some (.cells cs t fz)
theorem Kept.refl (B : Nat) (w : World) : Kept B w w := ⟨Below.refl _ _, fun _ _ _ _ h _ _ => h⟩
theorem Kept.trans {B : Nat} {a b c : World} (h : Kept B a b) (k : Kept B b c) : Kept B a c := ⟨h.below.trans k.below, fun x cs t fz hx h1 h2 => k.old x cs t fz (h.old x cs t fz hx h1 h2) h1 h2⟩
theorem Kept.grown {B : Nat} {a b : World} (h : a.grownBy b none) (hB : B ≤ a.heap.size) : Kept B a b :=
  ⟨⟨h.os, h.tape, h.output, h.size, fun k hk => h.block k (by omega) (by simp)⟩, fun x cs t fz hx _ _ => (h.block x (lt_of_block hx) (by simp)).trans hx⟩

/-! ### the log -/
def ints (xs : List Int) : List Value := xs.map (Value.int .i64)
/-- Block bl of w is the log's variable; the log reads xs (its row from block B on). -/
def LogIs (w : World) (B bl : Nat) (xs : List Int) : Prop := ∃ v, w.heap[bl]? = some (.cells #[v] 26 (0, 0)) ∧ w.ownsRow B 3 1 v xs.length (ints xs)

theorem LogIs.kept {w w' : World} {B bl : Nat} {xs : List Int} (h : LogIs w B bl xs) (hg : w.grownBy w' none) : LogIs w' B bl xs := by
  obtain ⟨v, h1, h2⟩ := h
  exact ⟨v, (hg.block bl (lt_of_block h1) (by simp)).trans h1, h2.kept hg (by cases hv : v.ownBlock <;> simp)⟩

theorem own_ne {w : World} {B b n e : Nat} {v : Value} {xs : List Value} {cs : Array Value} {t : TypeId} {fz : Nat × Nat} (hown : w.ownsRow B e 1 v n xs) (h : w.heap[b]? = some (.cells cs t fz)) (ht : t ≠ e) : v.ownBlock ≠ some b := by
  intro e'
  rcases hown.2 with ⟨rfl, _⟩ | ⟨g, cap, cur, rfl, _, hg, _⟩
  · simp [Value.ownBlock] at e'
  · simp [Value.ownBlock] at e'
    subst e'
    rw [hg] at h
    simp at h
    exact ht h.2.1.symm

/-! ### a term -/
def termCells (a : Bool) (i wt : Int) (bb bl : Nat) : Array Value := #[.bool a, .int .i64 i, .int .i64 wt, .pointer (some ⟨bb, 0, none⟩), .pointer (some ⟨bl, 0, none⟩)]

theorem info3 : (Yba.prog.info? 3).map (fun i => (i.zero, i.size, i.bytes)) = some (some (.int .i64 0), 1, 8) := by kernel_rfl
theorem info42 : (Yba.prog.info? 42).map (fun i => (i.zero, i.size, i.bytes)) = some (some .nilIface, 1, 16) := by kernel_rfl

theorem one_int (x : Int) : ∀ u ∈ [Value.int .i64 x], u.oneCell' = true := by
  intro u hu
  simp at hu
  subst hu
  rfl

/-- What the term's append and store do to the log. -/
theorem log_step {w w1 : World} {B bl : Nat} {xs : List Int} {x : Int} {v v' : Value} {o : Obj} (h1 : w.heap[bl]? = some (.cells #[v] 26 (0, 0))) (h2 : w.ownsRow B 3 1 v xs.length (ints xs))
    (hg : (w.alloc o).grownBy w1 v.ownBlock) (hown : w1.ownsRow B 3 1 v' (xs.length + 1) (ints xs ++ [.int .i64 x])) (hB : B ≤ bl) (_hBs : B ≤ w.heap.size) :
    LogIs (w1.setCell ⟨bl, 0, none⟩ v') B bl (xs ++ [x]) ∧ Kept B w (w1.setCell ⟨bl, 0, none⟩ v') := by
  have hl := lt_of_block h1
  have kk : ∀ (b : Nat) (cs : Array Value) (t : TypeId) (fz : Nat × Nat), w.heap[b]? = some (.cells cs t fz) → t ≠ 3 → w1.heap[b]? = some (.cells cs t fz) := by
    intro b cs t fz h ht
    have hl := lt_of_block h
    rw [hg.block b (by simp; omega) (own_ne h2 h ht).symm, heap_alloc_old _ _ (h := hl)]
    exact h
  have kbl := kk bl _ _ _ h1 (by decide)
  refine ⟨⟨v', by rw [set_blk kbl]; rfl, ?_⟩, ⟨?_, ?_⟩⟩
  · rw [List.length_append]
    have e : ints (xs ++ [x]) = ints xs ++ [.int .i64 x] := by simp [ints]
    rw [e]
    exact ownsRow_setCell_other hown (own_ne hown kbl (by decide)) v'
  · have hs := hg.size
    simp at hs
    refine ⟨hg.os, hg.tape, hg.output, by simp [World.setCell]; omega, fun k hk => ?_⟩
    rw [Below.heap_setCell _ _ _ _ (by show k ≠ bl; omega), hg.block k (by simp; omega) ?_, heap_alloc_old _ _ (h := by omega)]
    intro e
    have := (h2.lt k e.symm).1
    omega
  · intro b cs t fz h ht ht'
    have h' := kk b _ _ _ h ht'
    rw [Below.heap_setCell _ _ _ _ (by rintro rfl; rw [h1] at h; simp at h; exact ht h.2.1.symm)]
    exact h'
end Go.Proofs.Ybulkafku
