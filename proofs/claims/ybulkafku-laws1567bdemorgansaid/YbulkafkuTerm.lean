/-
  THE CONTRACT OF '(*zzs1567bterm).holds' where the row has the length that the term wants: it answers its ans and puts its number behind the log. The statement that appends draws its order: 36 ways, each to the same end.
-/
import Derived.Test.YbulkafkuHeap
import Derived.Deep.RegionLaw
import Derived.Deep.CutRange
namespace Go.Proofs.Ybulkafku
open Go.RowKit

set_option maxRecDepth 100000 in
set_option maxHeartbeats 3200000 in
theorem term_any (B bt bb bl : Nat) (a : Bool) (i wt : Int) (n c : Nat) (r : Option Addr) (xs : List Int) (w : World) (ht : w.heap[bt]? = some (.cells (termCells a i wt bb bl) 32 (0, 0))) (hL : LogIs w B bl xs) (hn : (n : Int) = wt) (hxs : xs.length ≤ 5000) (hB : B ≤ bl) (hBs : B ≤ w.heap.size) :
    Calls Yba.prog 23 #[.pointer (some ⟨bt, 0, none⟩), .slice r n c] w fun e w' => e = .returned (.bool a) ∧ LogIs w' B bl (xs ++ [i]) ∧ Kept B w w' := by
  obtain ⟨v, h1, h2⟩ := hL
  obtain ⟨i0, hi0, hz0, hz1, hz2⟩ := info_parts info3
  have c0 : w.cell? ⟨bt, 0, none⟩ = some (.bool a) := cell_blk ht rfl
  have c1 : w.cell? ⟨bt, 1, none⟩ = some (.int .i64 i) := cell_blk ht rfl
  have c2 : w.cell? ⟨bt, 2, none⟩ = some (.int .i64 wt) := cell_blk ht rfl
  have c4 : w.cell? ⟨bt, 4, none⟩ = some (.pointer (some ⟨bl, 0, none⟩)) := cell_blk ht rfl
  have cl : w.cell? ⟨bl, 0, none⟩ = some v := cell_blk h1 rfl
  have fl : w.frozen? ⟨bl, 0, none⟩ = false := free_blk h1
  have lt := lt_of_block ht
  have ll := lt_of_block h1
  have at_ : v.ownBlock ≠ some bt := own_ne h2 ht (by decide)
  have al : v.ownBlock ≠ some bl := own_ne h2 h1 (by decide)
  have hne : bt ≠ bl := by rintro rfl; rw [ht] at h1; simp at h1
  have HT := hide ht
  have H1 := hide h1
  clear ht h1
  go_enter Yba.func23, Yba.ntmps23
  go_upto_region 1 with fail
  go_cut [] from 5 to 21 (fun wr => LogIs wr B bl (xs ++ [i]) ∧ Kept B w wr)
  case first =>
    go_region_law
      ((refine step_append_lies _ (by rfl) _ _ _ (by rfl) B 3 i0 _ 1 8 Yba.underlying26 hi0 hz0 hz1 hz2 rfl (by omega) v xs.length (ints xs) (by rfl) ((h2.alloc _)) ⟨w.heap.size, 0, none⟩ 1 1 [.int .i64 i] (by rfl) (by rfl) (World.news_of_block (cs := #[.int .i64 i]) (t := 3) (fr := (0, 0)) (heap_alloc_new w _)) (one_int i) (by omega) (by unfold maxLen; omega) (by omega) (by simp; omega) (w.heap.size + 1) (by simp) ?_; intro gg cap w1 hown1 hgrow hat hlt; have hcx : w1.cell? ⟨bl, 0, none⟩ = some v := (hgrow.cell_far ⟨bl, 0, none⟩ (by simp; omega) (Ne.symm al)).trans (cell_blk (t := 26) (cs := #[v]) ((heap_alloc_old w _ (h := ll)).trans H1.out) rfl); have hbx : w1.cell? ⟨bt, 4, none⟩ = some (.pointer (some ⟨bl, 0, none⟩)) := (hgrow.cell_far ⟨bt, 4, none⟩ (by simp; omega) (Ne.symm at_)).trans (cell_blk ((heap_alloc_old w _ (h := lt)).trans HT.out) rfl); have hfx : w1.frozen? ⟨bl, 0, none⟩ = false := (hgrow.frozen_far ⟨bl, 0, none⟩ (by simp; omega) (Ne.symm al)).trans (free_blk (t := 26) (cs := #[v]) ((heap_alloc_old w _ (h := ll)).trans H1.out))))
    all_goals
      go_wp2_with fail
      go_meet
      case rel => exact log_step H1.out h2 ⟨hgrow.os, hgrow.tape, hgrow.output, hgrow.size, hgrow.block⟩ hown1 hB hBs
  case rest =>
    obtain ⟨hL', hK'⟩ := hcut
    have ht' := hK'.old _ _ _ _ HT.out (by decide) (by decide)
    have d0 : wc.cell? ⟨bt, 0, none⟩ = some (.bool a) := cell_blk ht' rfl
    have d2 : wc.cell? ⟨bt, 2, none⟩ = some (.int .i64 wt) := cell_blk ht' rfl
    subst hn
    clear ht'
    go_wp2
    go_ret
    exact ⟨rfl, hL', hK'⟩
end Go.Proofs.Ybulkafku
