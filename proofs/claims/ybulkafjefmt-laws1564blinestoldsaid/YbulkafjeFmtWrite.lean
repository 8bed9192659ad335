/-
  THE CONTRACT OF '(*zzs1564bw).Write': the writer keeps a copy of what it is handed, behind the chunks that it has.
-/
import Derived.Test.YbulkafjeFmtHeap
namespace Go.Proofs.YbulkafjeFmt
open Go.RowKit

/-- The value of one chunk: a slice over the whole of block g. -/
def chunkV (g : Nat) (l : List UInt8) : Value := .slice (some ⟨g, 0, none⟩) l.length l.length

/-- Block bw of w is a writer whose chunks are cs (its rows from block B on). -/
def Wr (w : World) (B bw : Nat) (fl : Bool) (cs : List (List UInt8)) : Prop :=
  ∃ (v : Value) (gs : List Nat), w.heap[bw]? = some (.cells #[v, .bool fl] 25 (0, 0)) ∧ gs.length = cs.length ∧ w.ownsRow B 29 1 v cs.length ((gs.zip cs).map fun x => chunkV x.1 x.2) ∧
    ∀ (i g : Nat) (c : List UInt8), gs[i]? = some g → cs[i]? = some c → w.heap[g]? = some (.cells (bys c) 5 (0, 0))

theorem Wr.kept {w w' : World} {B bw : Nat} {fl : Bool} {cs : List (List UInt8)} (h : Wr w B bw fl cs) (hg : w.grownBy w' none) : Wr w' B bw fl cs := by
  obtain ⟨v, gs, h1, h2, h3, h4⟩ := h
  refine ⟨v, gs, (hg.block bw (lt_of_block h1) (by simp)).trans h1, h2, h3.kept hg ?_, fun i g c hi hc => ?_⟩
  · cases hv : v.ownBlock <;> simp
  · have := h4 i g c hi hc
    exact (hg.block g (lt_of_block this) (by simp)).trans this


theorem own_ne {w : World} {B b n : Nat} {v : Value} {xs : List Value} {cs : Array Value} {t : TypeId} {fz : Nat × Nat} (hown : w.ownsRow B 29 1 v n xs) (h : w.heap[b]? = some (.cells cs t fz)) (ht : t ≠ 29) : some b ≠ v.ownBlock := by
  intro e
  rcases hown.2 with ⟨rfl, _⟩ | ⟨g, cap, cur, rfl, _, hg, _⟩
  · simp [Value.ownBlock] at e
  · simp [Value.ownBlock] at e
    subst e
    rw [hg] at h
    simp at h
    exact ht h.2.1.symm

theorem own_shape {w : World} {B n : Nat} {v : Value} {xs : List Value} (hown : w.ownsRow B 29 1 v (n + 1) xs) : ∃ g cap, v = .slice (some ⟨g, 0, none⟩) (n + 1) cap := by
  rcases hown.2 with ⟨_, h⟩ | ⟨g, cap, cur, rfl, _⟩
  · omega
  · exact ⟨g, cap, rfl⟩

theorem one_chunk (g : Nat) (l : List UInt8) : ∀ u ∈ [chunkV g l], u.oneCell' = true := by
  intro u hu
  simp at hu
  subst hu
  rfl

/-- What one write does to the writer: the new chunk in block w.heap.size, appended. -/
theorem wr_step {w w1 w2 : World} {B bw : Nat} {fl : Bool} {cs : List (List UInt8)} {l : List UInt8} {v v' : Value} {gs : List Nat} {o : Obj} (h1 : w.heap[bw]? = some (.cells #[v, .bool fl] 25 (0, 0))) (h2 : gs.length = cs.length)
    (h3 : w.ownsRow B 29 1 v cs.length ((gs.zip cs).map fun x => chunkV x.1 x.2)) (h4 : ∀ (i g : Nat) (c : List UInt8), gs[i]? = some g → cs[i]? = some c → w.heap[g]? = some (.cells (bys c) 5 (0, 0)))
    (hg1 : w.grownBy w1 none) (hb1 : w1.heap[w.heap.size]? = some (.cells (bys l) 5 (0, 0))) (hg2 : (w1.alloc o).grownBy w2 v.ownBlock) (hown : w2.ownsRow B 29 1 v' (cs.length + 1) ((gs.zip cs).map (fun x => chunkV x.1 x.2) ++ [chunkV w.heap.size l]))
    (hB : B ≤ bw) (hBs : B ≤ w.heap.size) :
    Wr (w2.setCell ⟨bw, 0, none⟩ v') B bw fl (cs ++ [l]) ∧ Kept B w (w2.setCell ⟨bw, 0, none⟩ v') := by
  have hown1 : w1.ownsRow B 29 1 v cs.length ((gs.zip cs).map fun x => chunkV x.1 x.2) := h3.kept hg1 (by cases hv : v.ownBlock <;> simp)
  have hlt1 := hg1.size
  have kk : ∀ (b : Nat) (cs : Array Value) (t : TypeId) (fz : Nat × Nat), w.heap[b]? = some (.cells cs t fz) → t ≠ 29 → w2.heap[b]? = some (.cells cs t fz) := by
    intro b cs t fz h ht
    have hl := lt_of_block h
    rw [hg2.block b (by simp; omega) (own_ne h3 h ht), heap_alloc_old _ _ (h := by omega), hg1.block b hl (by simp)]
    exact h
  have kbw := kk bw _ _ _ h1 (by decide)
  have knew : w2.heap[w.heap.size]? = some (.cells (bys l) 5 (0, 0)) := by
    have hl := lt_of_block hb1
    rw [hg2.block _ (by simp; omega) (own_ne hown1 hb1 (by decide)), heap_alloc_old _ _ (h := hl)]
    exact hb1
  have hbne : ∀ (b : Nat) (cs : Array Value) (fz : Nat × Nat), w2.heap[b]? = some (.cells cs 5 fz) → b ≠ bw := by
    rintro b cs fz h rfl
    rw [kbw] at h
    simp at h
  have hvb : v'.ownBlock ≠ some bw := fun e => own_ne hown kbw (by decide) e.symm
  refine ⟨⟨v', gs ++ [w.heap.size], by rw [set_blk kbw]; rfl, by simp [h2], ?_, ?_⟩, ?_⟩
  · have e : ((gs ++ [w.heap.size]).zip (cs ++ [l])).map (fun x => chunkV x.1 x.2) = (gs.zip cs).map (fun x => chunkV x.1 x.2) ++ [chunkV w.heap.size l] := by
      rw [List.zip_append h2]
      simp
    rw [e, List.length_append]
    exact ownsRow_setCell_other hown hvb v'
  · intro i g c hi hc
    by_cases hlt : i < cs.length
    · rw [List.getElem?_append_left (by omega)] at hi
      rw [List.getElem?_append_left hlt] at hc
      have := kk g _ _ _ (h4 i g c hi hc) (by decide)
      rw [Below.heap_setCell _ _ _ _ (hbne g _ _ this)]
      exact this
    · rw [List.getElem?_append_right (by omega)] at hi hc
      rw [h2] at hi
      have hz : i - cs.length = 0 := by
        have := (List.getElem?_eq_some_iff.1 hc).1
        simp at this
        omega
      rw [hz] at hi hc
      simp at hi hc
      subst hi
      subst hc
      rw [Below.heap_setCell _ _ _ _ (hbne _ _ _ knew)]
      exact knew
  · have hs2 := hg2.size
    simp at hs2
    refine ⟨⟨hg2.os.trans hg1.os, hg2.tape.trans hg1.tape, hg2.output.trans hg1.output, by simp [World.setCell]; omega, fun k hk => ?_⟩, fun b cs t fz h ht ht' => ?_⟩
    · rw [Below.heap_setCell _ _ _ _ (by show k ≠ bw; omega), hg2.block k (by simp; omega) ?_, heap_alloc_old _ _ (h := by omega), hg1.block k (by omega) (by simp)]
      intro e
      have := (h3.lt k e.symm).1
      omega
    · have h' := kk b _ _ _ h ht'
      rw [Below.heap_setCell _ _ _ _ (by rintro rfl; rw [h1] at h; simp at h; exact ht h.2.1.symm)]
      exact h'

set_option maxRecDepth 100000 in
set_option maxHeartbeats 1000000 in
theorem write_ok (B bw gp cp : Nat) (l : List UInt8) (cs : List (List UInt8)) (w : World) (hW : Wr w B bw false cs) (hp : BytesAt w gp l) (hgp : gp < w.heap.size) (hl : l.length ≤ 4096) (hcs : cs.length ≤ 10) (hB : B ≤ bw) (hBs : B ≤ w.heap.size) :
    Calls Ybaf.prog 38 #[.pointer (some ⟨bw, 0, none⟩), .slice (some ⟨gp, 0, none⟩) l.length cp] w fun e w' => (∃ x y, e = .returned (.tuple #[.int .i64 x, y])) ∧ Wr w' B bw false (cs ++ [l]) ∧ Kept B w w' := by
  obtain ⟨v, gs, h1, h2, h3, h4⟩ := hW
  obtain ⟨i0, hi0, hz0, hz1, hz2⟩ := info_parts info29
  have hmk := run_make_bytes l.length hl
  obtain ⟨w1, hcp, hg1, hb1, hs1⟩ := copied l gp cp 3 w hp hgp
  have hbw := lt_of_block h1
  have hc0 : w1.cell? ⟨bw, 0, none⟩ = some v := cell_blk ((hg1.block bw hbw (by simp)).trans h1) rfl
  have hown1 : w1.ownsRow B 29 1 v cs.length ((gs.zip cs).map fun x => chunkV x.1 x.2) := h3.kept hg1 (by cases hv : v.ownBlock <;> simp)
  have H4 := hide h4
  have H1 := hide h1
  have HB1 := hide hb1
  have hsz1 : w.heap.size ≤ w1.heap.size := hg1.size
  clear h4 h1 hb1 hs1
  go_enter Ybaf.func38, Ybaf.ntmps38
  go_wp2_with (at_builtin; refine wpList_append_own_at _ rfl _ _ 23 rfl B 29 i0 (.slice none 0 0) 1 24 Ybaf.underlying23 hi0 hz0 hz1 hz2 rfl (by decide) _ _ _ rfl (hown1.alloc _) ⟨w1.heap.size, 0, none⟩ 1 1 [.slice (some ⟨w.heap.size, 0, none⟩) l.length l.length] rfl rfl (cell_one_new _ _ _) (one_chunk _ _) (by unfold maxLen; omega) (by omega) (by simp; omega) ?_; intro v' w2 hown' hgrow0 hnil hloc; have hgrow : (w1.alloc (Obj.cells #[Value.slice (some ⟨w.heap.size, 0, none⟩) l.length l.length] 29)).grownBy w2 v.ownBlock := hgrow0; clear hgrow0 hnil hloc; have hbx := (hgrow.block bw (by simp; omega) (own_ne h3 H1.out (by decide))).trans ((heap_alloc_old _ _ (h := by omega)).trans ((hg1.block bw hbw (by simp)).trans H1.out)); have hcx := cell_blk (i := 0) (v := v) hbx rfl; have hcy := cell_blk (i := 1) (v := .bool false) hbx rfl; have hfx := free_blk (i := 0) hbx; clear hbx; obtain ⟨g', cap', hv'⟩ := own_shape hown'; rw [hv'] at hown' ⊢; clear hv')
  go_ret2
  have R := wr_step H1.out h2 h3 H4.out hg1 HB1.out hgrow hown' hB hBs
  exact ⟨⟨_, _, rfl⟩, R.1, R.2⟩
set_option maxRecDepth 100000 in
set_option maxHeartbeats 1000000 in
theorem write_fail (B bw gp cp : Nat) (l : List UInt8) (cs : List (List UInt8)) (w : World) (hW : Wr w B bw true cs) (hp : BytesAt w gp l) (hgp : gp < w.heap.size) (hl : l.length ≤ 4096) (hcs : cs.length ≤ 10) (hB : B ≤ bw) (hBs : B ≤ w.heap.size) :
    Calls Ybaf.prog 38 #[.pointer (some ⟨bw, 0, none⟩), .slice (some ⟨gp, 0, none⟩) l.length cp] w fun e w' => (∃ x y, e = .returned (.tuple #[.int .i64 x, y])) ∧ Wr w' B bw true (cs ++ [l]) ∧ Kept B w w' := by
  obtain ⟨v, gs, h1, h2, h3, h4⟩ := hW
  obtain ⟨i0, hi0, hz0, hz1, hz2⟩ := info_parts info29
  have hmk := run_make_bytes l.length hl
  obtain ⟨w1, hcp, hg1, hb1, hs1⟩ := copied l gp cp 3 w hp hgp
  have hbw := lt_of_block h1
  have hc0 : w1.cell? ⟨bw, 0, none⟩ = some v := cell_blk ((hg1.block bw hbw (by simp)).trans h1) rfl
  have hown1 : w1.ownsRow B 29 1 v cs.length ((gs.zip cs).map fun x => chunkV x.1 x.2) := h3.kept hg1 (by cases hv : v.ownBlock <;> simp)
  have H4 := hide h4
  have H1 := hide h1
  have HB1 := hide hb1
  have hsz1 : w.heap.size ≤ w1.heap.size := hg1.size
  clear h4 h1 hb1 hs1
  go_enter Ybaf.func38, Ybaf.ntmps38
  go_wp2_with (first | (at_builtin; refine wpList_append_own_at _ rfl _ _ 23 rfl B 29 i0 (.slice none 0 0) 1 24 Ybaf.underlying23 hi0 hz0 hz1 hz2 rfl (by decide) _ _ _ rfl (hown1.alloc _) ⟨w1.heap.size, 0, none⟩ 1 1 [.slice (some ⟨w.heap.size, 0, none⟩) l.length l.length] rfl rfl (cell_one_new _ _ _) (one_chunk _ _) (by unfold maxLen; omega) (by omega) (by simp; omega) ?_; intro v' w2 hown' hgrow0 hnil hloc; have hgrow : (w1.alloc (Obj.cells #[Value.slice (some ⟨w.heap.size, 0, none⟩) l.length l.length] 29)).grownBy w2 v.ownBlock := hgrow0; clear hgrow0 hnil hloc; have hbx := (hgrow.block bw (by simp; omega) (own_ne h3 H1.out (by decide))).trans ((heap_alloc_old _ _ (h := by omega)).trans ((hg1.block bw hbw (by simp)).trans H1.out)); have hcx := cell_blk (i := 0) (v := v) hbx rfl; have hcy := cell_blk (i := 1) (v := .bool true) hbx rfl; have hfx := free_blk (i := 0) hbx; clear hbx; obtain ⟨g', cap', hv'⟩ := own_shape hown'; rw [hv'] at hown' ⊢; clear hv') | go_in)
  go_ret2
  have R := wr_step H1.out h2 h3 H4.out hg1 HB1.out hgrow hown' hB hBs
  have hsw := R.2.below.size
  exact ⟨⟨_, _, rfl⟩, R.1.kept (World.grownBy_alloc _ _ none), R.2.trans (Kept.grown (World.grownBy_alloc _ _ none) (by omega))⟩
end Go.Proofs.YbulkafjeFmt
