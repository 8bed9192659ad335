/-
  THE TERMS AS THE LAWS MAKE THEM: one block a term, the slice of them appended to; the log and the flag that the laws lay first.
-/
import Derived.Test.YbulkafkuBrow
namespace Go.Proofs.Ybulkafku
open Go.RowKit

/-- Where a slice of terms lies: its row's element type is 42. -/
theorem own_row {w : World} {B e n : Nat} {v : Value} {xs : List Value} (hown : w.ownsRow B e 1 v n xs) : ∀ g, v.ownBlock = some g → ∃ cs : Array Value, w.heap[g]? = some (.cells cs e (0, 0)) := by
  intro g hg
  rcases hown.2 with ⟨rfl, _⟩ | ⟨g', cap, cur, rfl, _, hh, _⟩
  · simp [Value.ownBlock] at hg
  · simp [Value.ownBlock] at hg
    subst hg
    exact ⟨cur, hh⟩

theorem LogIs.but {w w' : World} {B bl : Nat} {xs : List Int} {row : Option Nat} (h : LogIs w B bl xs) (hg : w.grownBy w' row) (hr : ∀ g, row = some g → ∃ cs : Array Value, w.heap[g]? = some (.cells cs 42 (0, 0))) : LogIs w' B bl xs := by
  obtain ⟨v, h1, h2⟩ := h
  have hne : ∀ (b : Nat) (cs : Array Value) (t : TypeId), w.heap[b]? = some (.cells cs t (0, 0)) → t ≠ 42 → some b ≠ row := by
    intro b cs t hb ht e
    obtain ⟨cs', h'⟩ := hr b e.symm
    rw [h'] at hb
    simp at hb
    exact ht hb.2.symm
  refine ⟨v, (hg.block bl (lt_of_block h1) (hne bl _ _ h1 (by decide))).trans h1, h2.kept hg ?_⟩
  cases hv : v.ownBlock with
  | none => exact Or.inl rfl
  | some g =>
    obtain ⟨cs, hc⟩ := own_row h2 g hv
    exact Or.inr (hne g cs 3 hc (by decide))

theorem Terms.but {w w' : World} {B : Nat} {u : Value} {qs : List Bool} {wt : Int} {bb bl : Nat} {row : Option Nat} (h : Terms w B u qs wt bb bl) (hg : w.grownBy w' row) (hu : ∀ g, u.ownBlock = some g → row ≠ some g) (hr : ∀ g, row = some g → ∃ cs : Array Value, w.heap[g]? = some (.cells cs 42 (0, 0))) : Terms w' B u qs wt bb bl := by
  obtain ⟨gs, h1, h2, h3⟩ := h
  refine ⟨gs, h1, h2.kept hg ?_, fun i g a hi ha => ?_⟩
  · cases hv : u.ownBlock with
    | none => exact Or.inl rfl
    | some g => exact Or.inr (fun e => hu g hv e.symm)
  · have hb := h3 i g a hi ha
    refine (hg.block g (lt_of_block hb) ?_).trans hb
    intro e
    obtain ⟨cs', h'⟩ := hr g e.symm
    rw [h'] at hb
    simp at hb

theorem take_snoc (qs : List Bool) (k : Nat) (a : Bool) (h : qs[k]? = some a) : qs.take (k + 1) = qs.take k ++ [a] := by
  have hk : k < qs.length := (List.getElem?_eq_some_iff.1 h).1
  rw [List.take_succ_eq_append_getElem hk]
  have : qs[k] = a := (List.getElem?_eq_some_iff.1 h).2
  rw [this]

theorem alloc2 (w : World) (o1 o2 : Obj) : ((w.alloc o1).alloc o2).heap[w.heap.size]? = some o1 ∧ ((w.alloc o1).alloc o2).heap[w.heap.size + 1]? = some o2 ∧ w.grownBy ((w.alloc o1).alloc o2) none := by
  have e1 : (w.alloc o1).heap.size = w.heap.size + 1 := by simp
  refine ⟨?_, ?_, grown_then (World.grownBy_alloc w o1 none) (World.grownBy_alloc _ o2 none)⟩
  · rw [heap_alloc_old (h := by omega), heap_alloc_new]
  · rw [← e1, heap_alloc_new]

/-- The new term's interface value, where the append reads it. -/
theorem news_term (w : World) (o1 : Obj) (g : Nat) : ∀ j u, ([termV g] : List Value)[j]? = some u → ((w.alloc o1).alloc (.cells #[termV g] 42)).cell? ((⟨w.heap.size + 1, 0, none⟩ : Addr).add j) = some u := by
  intro j u hu
  rw [Addr.add_lit, Nat.zero_add]
  refine cell_blk (alloc2 w o1 _).2.1 ?_
  simpa using hu
theorem one_term (g : Nat) : ∀ u ∈ [termV g], u.oneCell' = true := by
  intro u hu
  simp at hu
  subst hu
  rfl

/-- One round of the making: the new term in block wr.heap.size, appended to v. -/
theorem terms_step {wr w2 : World} {B : Nat} {v v' : Value} {qs : List Bool} {k : Nat} {wt : Int} {bb bl : Nat} {a : Bool} {o : Obj} {gs : List Nat} (h1 : gs.length = (qs.take k).length)
    (h3 : ∀ (i g : Nat) (a : Bool), gs[i]? = some g → (qs.take k)[i]? = some a → wr.heap[g]? = some (.cells (termCells a i wt bb bl) 32 (0, 0))) (hv : wr.ownsRow B 42 1 v (qs.take k).length (gs.map termV)) (ha : qs[k]? = some a)
    (hg : ((wr.alloc (.cells (termCells a k wt bb bl) 32)).alloc o).grownBy w2 v.ownBlock) (hown : w2.ownsRow B 42 1 v' ((qs.take k).length + 1) (gs.map termV ++ [termV wr.heap.size])) : Terms w2 B v' (qs.take (k + 1)) wt bb bl := by
  have hk : k < qs.length := (List.getElem?_eq_some_iff.1 ha).1
  obtain ⟨n1, _, hgr⟩ := alloc2 wr (.cells (termCells a k wt bb bl) 32) o
  have hlen : (qs.take k).length = k := by rw [List.length_take]; omega
  have hsz := hgr.size
  have keep : ∀ (b : Nat) (cs : Array Value), ((wr.alloc (.cells (termCells a k wt bb bl) 32)).alloc o).heap[b]? = some (.cells cs 32 (0, 0)) → w2.heap[b]? = some (.cells cs 32 (0, 0)) := by
    intro b cs hb
    refine (hg.block b (lt_of_block hb) ?_).trans hb
    intro e
    have hvv : ((wr.alloc (.cells (termCells a k wt bb bl) 32)).alloc o).ownsRow B 42 1 v (qs.take k).length (gs.map termV) := (hv.alloc _).alloc _
    exact own_ne hvv hb (by decide) e.symm
  refine ⟨gs ++ [wr.heap.size], ?_, ?_, ?_⟩
  · rw [take_snoc qs k a ha]
    simp [h1]
  · rw [take_snoc qs k a ha, List.length_append, List.map_append]
    exact hown
  · intro i g b hi hb
    rw [take_snoc qs k a ha] at hb
    by_cases hlt : i < k
    · rw [List.getElem?_append_left (by omega)] at hi hb
      have := h3 i g b hi hb
      exact keep g _ ((hgr.block g (lt_of_block this) (by simp)).trans this)
    · rw [List.getElem?_append_right (by omega)] at hi hb
      rw [h1, hlen] at hi
      rw [hlen] at hb
      have hz : i - k = 0 := by
        have := (List.getElem?_eq_some_iff.1 hb).1
        simp at this
        omega
      have hik : i = k := by omega
      rw [hz] at hi hb
      simp at hi hb
      subst hi
      subst hb
      subst hik
      exact keep _ _ n1

/-- What one round of the making leaves beside the terms. -/
theorem beside_step {wr w2 : World} {B C n : Nat} {v : Value} {ys : List Value} {o1 o : Obj} {bb bl : Nat} {xs : List Int} {w : World} (hv : wr.ownsRow B 42 1 v n ys) (hg : ((wr.alloc o1).alloc o).grownBy w2 v.ownBlock)
    (hL : LogIs wr C bl xs) (hb : wr.heap[bb]? = some (.cells #[.bool false] 4 (0, 0))) (hbe : Below B w wr) (hsz : B ≤ wr.heap.size) : LogIs w2 C bl xs ∧ w2.heap[bb]? = some (.cells #[.bool false] 4 (0, 0)) ∧ Below B w w2 := by
  obtain ⟨_, _, hgr⟩ := alloc2 wr o1 o
  have hv2 : ((wr.alloc o1).alloc o).ownsRow B 42 1 v n ys := (hv.alloc _).alloc _
  have hb2 := (hgr.block bb (lt_of_block hb) (by simp)).trans hb
  refine ⟨(hL.kept hgr).but hg (own_row hv2), (hg.block bb (lt_of_block hb2) (fun e => own_ne hv2 hb2 (by decide) e.symm)).trans hb2, ?_⟩
  exact ((hbe.alloc hsz _).alloc (by simp; omega) _).grown hg (by simp; omega) (fun k hk => (hv.lt k hk).1)

/-- The world behind 'log := []int{}; bad := false'. -/
def madeLog (w : World) : World := ((w.alloc (.cells #[] 3)).alloc (.cells #[.slice (some ⟨w.heap.size, 0, none⟩) 0 0] 26)).alloc (.cells #[.bool false] 4)
theorem madeLog_facts (w : World) (B : Nat) (hB : B ≤ w.heap.size) : w.grownBy (madeLog w) none ∧ LogIs (madeLog w) B (w.heap.size + 1) [] ∧ (madeLog w).heap[w.heap.size + 1 + 1]? = some (.cells #[.bool false] 4 (0, 0)) ∧ (madeLog w).heap.size = w.heap.size + 3 := by
  obtain ⟨a1, a2, a3⟩ := alloc2 w (.cells #[] 3) (.cells #[.slice (some ⟨w.heap.size, 0, none⟩) 0 0] 26)
  have hs : ((w.alloc (.cells #[] 3)).alloc (.cells #[.slice (some ⟨w.heap.size, 0, none⟩) 0 0] 26)).heap.size = w.heap.size + 1 + 1 := by simp
  have hg := World.grownBy_alloc ((w.alloc (.cells #[] 3)).alloc (.cells #[.slice (some ⟨w.heap.size, 0, none⟩) 0 0] 26)) (.cells #[.bool false] 4) none
  refine ⟨grown_then a3 hg, ⟨.slice (some ⟨w.heap.size, 0, none⟩) 0 0, ?_, ⟨by simp [ints], Or.inr ⟨w.heap.size, 0, #[], rfl, hB, ?_, Nat.le_refl _, by unfold maxLen; omega, rfl, rfl⟩⟩⟩, ?_, ?_⟩
  · exact (hg.block _ (lt_of_block a2) (by simp)).trans a2
  · exact (hg.block _ (lt_of_block a1) (by simp)).trans a1
  · unfold madeLog
    rw [← hs, heap_alloc_new]
  · unfold madeLog
    simp
end Go.Proofs.Ybulkafku
