/-
  THE WALK OF 'cli.LawS1564BLines', over fmt's stop at an F that gives the three lines' texts.
-/
import Derived.Test.YbulkafjeFmtLines
import Derived.Deep.QuietTactic
import Derived.BigQuiet
namespace Go.Proofs.YbulkafjeFmt
open Go.RowKit Go.Extern.Stop Go.Stop Go.Extern

theorem Wr.new (w : World) (fl : Bool) : Wr (w.alloc (.cells #[.slice none 0 0, .bool fl] 25)) w.heap.size w.heap.size fl [] :=
  ⟨.slice none 0 0, [], heap_alloc_new _ _, rfl, World.ownsRow_nil _ _ _ _, fun i g c h => by simp at h⟩

/-- What the laws read of a writer: the row of its chunks, and each chunk. -/
theorem Wr.read {w : World} {B bw : Nat} {fl : Bool} {cs : List (List UInt8)} (h : Wr w B bw fl cs) (hne : cs ≠ []) : ∃ g cap cur, w.heap[bw]? = some (.cells #[.slice (some ⟨g, 0, none⟩) cs.length cap, .bool fl] 25 (0, 0)) ∧ w.heap[g]? = some (.cells cur 29 (0, 0)) ∧
    ∀ (i : Nat) (c : List UInt8), cs[i]? = some c → ∃ b, cur[i]? = some (chunkV b c) ∧ w.heap[b]? = some (.cells (bys c) 5 (0, 0)) := by
  obtain ⟨v, gs, h1, h2, h3, h4⟩ := h
  rcases h3.2 with ⟨_, h⟩ | ⟨g, cap, cur, rfl, _, hg, _, _, _, ht⟩
  · exact absurd (List.length_eq_zero_iff.1 h) hne
  · refine ⟨g, cap, cur, h1, hg, fun i c hc => ?_⟩
    have hi : i < cs.length := (List.getElem?_eq_some_iff.1 hc).1
    obtain ⟨b, hb⟩ : ∃ b, gs[i]? = some b := ⟨gs[i], List.getElem?_eq_getElem (by omega)⟩
    refine ⟨b, ?_, h4 i b c hb hc⟩
    have e : (cur.toList.take (cs.length * 1))[i]? = some (chunkV b c) := by
      rw [ht]
      simp
      exact ⟨b, c, List.getElem?_zip_eq_some.2 ⟨hb, hc⟩, rfl⟩
    rw [List.getElem?_take_of_lt (by omega)] at e
    simpa using e

/-- 'string(b)', b a chunk. -/
theorem conv_back (w : World) (b : Nat) (c : List UInt8) (h : w.heap[b]? = some (.cells (bys c) 5 (0, 0))) : (convert 29 9 (chunkV b c)).run Ybaf.prog w = .ok (.string ⟨c.toArray⟩) w :=
  run_convert_bytes_back w 29 9 5 ⟨b, 0, none⟩ c.length c Ybaf.underlying29 Ybaf.underlying5 Ybaf.underlying9 (fun j hj => by
    rw [Addr.add_lit, Nat.zero_add]
    exact cell_blk h (bys_at (List.getElem?_eq_getElem hj)))

theorem three_at (a b c : List UInt8) (k : Nat) (h : k < 3) : ∃ l, [a, b, c][k]? = some l ∧ (#[Value.string ⟨a.toArray⟩, .string ⟨b.toArray⟩, .string ⟨c.toArray⟩] : Array Value)[k]? = some (.string ⟨l.toArray⟩) := by
  match k, h with
  | 0, _ => exact ⟨a, rfl, rfl⟩
  | 1, _ => exact ⟨b, rfl, rfl⟩
  | 2, _ => exact ⟨c, rfl, rfl⟩

theorem tab_later {B : Nat} {w w' : World} (h : Lib.TabBelow Ybaf.prog B w tabName .u64 Lib.pow10Tab) (hb : Below B w w') (hs : B ≤ w'.heap.size) : Lib.TabBelow Ybaf.prog w'.heap.size w' tabName .u64 Lib.pow10Tab :=
  fun w'' hb'' => h w'' (hb.trans (hb''.mono hs))

set_option maxHeartbeats 1000000 in
theorem lawLines_in (F : Interp) (x : ByteArray) (n t : Int) (w : World) (hF : F.answers w.tape) (hx : x.size ≤ 1024) (hn0 : -9223372036854775808 ≤ n) (hn1 : n ≤ 9223372036854775807) (ht0 : -9223372036854775808 ≤ t) (ht1 : t ≤ 9223372036854775807) (hn : (Lib.itoa n).length ≤ 21) (ht : (Lib.itoa t).length ≤ 21)
    (htab : Lib.TabBelow Ybaf.prog w.heap.size w tabName .u64 Lib.pow10Tab)
    (hT1 : FmtStop.textOf (F "fmt.Sprintf" (rdP x) 0) = ⟨(lineP x.data.toList).toArray⟩) (hT2 : FmtStop.textOf (F "fmt.Sprintf" (rdN n) 0) = ⟨(lineN n).toArray⟩) (hT3 : FmtStop.textOf (F "fmt.Sprintf" (rdT t) 0) = ⟨(lineT t).toArray⟩) :
    Calls Ybaf.prog 4 #[.string x, .int .i64 n, .int .i64 t] w fun e w' => e = .returned (.bool true) ∧ Below w.heap.size w w' := by
  have HTab := hide htab
  have HT1 := hide hT1
  have HT2 := hide hT2
  have HT3 := hide hT3
  clear htab hT1 hT2 hT3
  have hlx : x.data.toList.length ≤ 1024 := hx
  have l1 : (lineP x.data.toList).length ≤ 4096 := by simp [lineP]; simp at hlx; omega
  have l2 : (lineN n).length ≤ 4096 := by simp [lineN]; omega
  have l3 : (lineT t).length ≤ 4096 := by simp [lineT]; omega
  go_enter Ybaf.func4, Ybaf.ntmps4
  go_wp2_with fail
  refine (writeHead_any F true w.heap.size w.heap.size x n t 0 false _ _ _ _ (by exact hF) HT1.out HT2.out HT3.out (Wr.new w true) l1 l2 l3 (Nat.le_refl _) (by simp)).mono ?_
  rintro e w1 ⟨rfl, hW1, hK1⟩
  have hb1 : Below w.heap.size w w1 := ((Below.refl _ w).alloc (Nat.le_refl _) _).trans hK1.below
  have hs1 := hb1.size
  go_wp2_with fail
  refine (lines_any x n t w1 hx hn0 hn1 ht0 ht1 hn ht (tab_later HTab.out hb1 hs1)).mono ?_
  rintro e w2 ⟨gl, rfl, hgl, hg2⟩
  obtain ⟨g, cap, cur, hbw, hg, hch⟩ := (hW1.kept hg2).read (by simp)
  have hb2 : Below w.heap.size w w2 := hb1.trans (Kept.grown hg2 hs1).below
  have c0 := cell_blk (i := 0) hbw rfl
  have HBW := hide hbw
  have HG := hide hg
  have HCH := hide hch
  have HGL := hide hgl
  clear hbw hg hch hgl
  go_wp2_with fail
  go_loopw [9] (fun y wr => ∃ k m : Nat, k ≤ 3 ∧ y = .int .i64 k ∧ wr = w2.drewN m) (fun y _ => 3 - (intOf y).toNat)
  case atStart => exact ⟨0, 0, by omega, rfl, rfl⟩
  case round =>
    obtain ⟨k, m, hk, rfl, hwr⟩ := hrel
    have HW := hide hwr
    by_cases hlt : k < 3
    · obtain ⟨c, hc, hs⟩ := three_at (lineP x.data.toList) (lineN n) (lineT t) k hlt
      obtain ⟨b, hb, hbb⟩ := HCH.out k c hc
      have d0 : wr.cell? ⟨w.heap.size, 0, none⟩ = some (.slice (some ⟨g, 0, none⟩) 3 cap) := by rw [hwr]; exact c0
      have d1 : wr.cell? ⟨g, k, none⟩ = some (.slice (some ⟨b, 0, none⟩) c.length c.length) := by rw [hwr]; exact cell_blk (w := w2) HG.out hb
      have d2 : wr.cell? ⟨gl, k, none⟩ = some (.string ⟨c.toArray⟩) := by rw [hwr]; exact cell_blk (w := w2) HGL.out hs
      have d3 : ∀ nq, (convert 29 9 (.slice (some ⟨b, 0, none⟩) c.length c.length)).run Ybaf.prog (wr.drewN nq) = .ok (.string ⟨c.toArray⟩) (wr.drewN nq) := fun nq => conv_back (wr.drewN nq) b c (by rw [hwr]; exact hbb)
      clear hwr hb hbb hs hc
      go_wp2_with fail
      go_quiet (fail)
      have HW' : Hid (wr.drewN nq = w2.drewN (m + nq)) := by rw [HW.out, World.drewN_drewN]; exact hide rfl
      go_wp2
      go_roundw
      case rel => exact ⟨k + 1, _, by omega, by go_num, HW'.out⟩
      case measure => simp [intOf]; omega
    · clear hwr
      go_wp2
      go_ret
      exact ⟨rfl, by rw [HW.out]; exact below_drewN hb2 m⟩
end Go.Proofs.YbulkafjeFmt
