/-
  THE WALK OF 'cli.LawS1564BExact', over fmt's stop at an F that gives the three lines' texts.
-/
import Derived.Test.YbulkafjeFmtLinesWalk
namespace Go.Proofs.YbulkafjeFmt
open Go.RowKit Go.Extern.Stop Go.Stop Go.Extern

theorem byteCells_app (a b : List UInt8) : Lib.byteCells (a ++ b) = Lib.byteCells a ++ Lib.byteCells b := by simp [Lib.byteCells]
theorem take_flat (cs : List (List UInt8)) (k : Nat) (c : List UInt8) (h : cs[k]? = some c) : (cs.take (k + 1)).flatten = (cs.take k).flatten ++ c := by
  have hk : k < cs.length := (List.getElem?_eq_some_iff.1 h).1
  rw [List.take_succ_eq_append_getElem hk, List.flatten_append]
  have : cs[k] = c := (List.getElem?_eq_some_iff.1 h).2
  simp [this]

/-- A slice of bytes that the call owns, as a string. -/
theorem conv_own (w : World) (B : Nat) (v : Value) (l : List UInt8) (h : w.ownsRow B 5 1 v l.length (Lib.byteCells l)) (hne : l ≠ []) : ∃ g cap, v = .slice (some ⟨g, 0, none⟩) l.length cap ∧ ∀ w' : World, w'.heap[g]? = w.heap[g]? → (convert 29 9 (.slice (some ⟨g, 0, none⟩) l.length cap)).run Ybaf.prog w' = .ok (.string ⟨l.toArray⟩) w' := by
  rcases h.2 with ⟨_, h⟩ | ⟨g, cap, cur, rfl, _, hg, _, _, hs, ht⟩
  · exact absurd (List.length_eq_zero_iff.1 h) hne
  · refine ⟨g, cap, rfl, fun w' hw' => ?_⟩
    refine run_convert_bytes_back w' 29 9 5 ⟨g, 0, none⟩ cap l Ybaf.underlying29 Ybaf.underlying5 Ybaf.underlying9 (fun j hj => ?_)
    rw [Addr.add_lit, Nat.zero_add]
    refine cell_blk (hw'.trans hg) ?_
    have e : (cur.toList.take (l.length * 1))[j]? = some (.int .u8 (l[j].toNat : Int)) := by
      rw [ht]
      simp [Lib.byteCells, hj]
    rw [List.getElem?_take_of_lt (by omega)] at e
    simpa using e

set_option maxHeartbeats 1000000 in
theorem lawExact_in (F : Interp) (x : ByteArray) (n t tr : Int) (nt : Bool) (w : World) (hF : F.answers w.tape) (hx : x.size ≤ 1024) (hn0 : -9223372036854775808 ≤ n) (hn1 : n ≤ 9223372036854775807) (ht0 : -9223372036854775808 ≤ t) (ht1 : t ≤ 9223372036854775807) (hn : (Lib.itoa n).length ≤ 21) (ht : (Lib.itoa t).length ≤ 21)
    (htab : Lib.TabBelow Ybaf.prog w.heap.size w tabName .u64 Lib.pow10Tab)
    (hT1 : FmtStop.textOf (F "fmt.Sprintf" (rdP x) 0) = ⟨(lineP x.data.toList).toArray⟩) (hT2 : FmtStop.textOf (F "fmt.Sprintf" (rdN n) 0) = ⟨(lineN n).toArray⟩) (hT3 : FmtStop.textOf (F "fmt.Sprintf" (rdT t) 0) = ⟨(lineT t).toArray⟩) :
    Calls Ybaf.prog 3 #[.string x, .int .i64 n, .int .i64 t, .int .i64 tr, .bool nt] w fun e w' => e = .returned (.bool true) ∧ Below w.heap.size w w' := by
  have HTab := hide htab
  have HT1 := hide hT1
  have HT2 := hide hT2
  have HT3 := hide hT3
  clear htab hT1 hT2 hT3
  have hlx : x.data.toList.length ≤ 1024 := hx
  have l1 : (lineP x.data.toList).length ≤ 2000 := by simp [lineP]; simp at hlx; omega
  have l2 : (lineN n).length ≤ 2000 := by simp [lineN]; omega
  have l3 : (lineT t).length ≤ 2000 := by simp [lineT]; omega
  have hLne : ([lineP x.data.toList, lineN n, lineT t].take 3).flatten ≠ [] := by simp [lineP]
  obtain ⟨i0, hi0, hz0, hz1, hz2⟩ := info_parts info5
  have hsx : (⟨(lineP x.data.toList).toArray⟩ : ByteArray).size ≤ 2000 := l1
  have hsn : (⟨(lineN n).toArray⟩ : ByteArray).size ≤ 2000 := l2
  have hst : (⟨(lineT t).toArray⟩ : ByteArray).size ≤ 2000 := l3
  go_enter Ybaf.func3, Ybaf.ntmps3
  go_wp2_with fail
  refine (writeHead_any F false w.heap.size w.heap.size x n t tr nt _ _ _ _ (by exact hF) HT1.out HT2.out HT3.out (Wr.new w false) (by omega) (by omega) (by omega) (Nat.le_refl _) (by simp)).mono ?_
  rintro e w1 ⟨rfl, hW1, hK1⟩
  have hb1 : Below w.heap.size w w1 := ((Below.refl _ w).alloc (Nat.le_refl _) _).trans hK1.below
  have hs1 := hb1.size
  obtain ⟨g, cap, cur, hbw, hg, hch⟩ := hW1.read (by simp)
  have hbwl := lt_of_block hbw
  have hgl0 := lt_of_block hg
  have HBW := hide hbw
  have HG := hide hg
  have HCH := hide hch
  clear hbw hg hch
  go_wp2_with fail
  go_loopw [12, 13] (fun v y wr => ∃ k : Nat, k ≤ 3 ∧ y = .int .i64 k ∧ wr.ownsRow w1.heap.size 5 1 v (([lineP x.data.toList, lineN n, lineT t].take k).flatten).length (Lib.byteCells ([lineP x.data.toList, lineN n, lineT t].take k).flatten) ∧ Below w1.heap.size w1 wr) (fun _ y _ => 3 - (intOf y).toNat)
  case atStart => exact ⟨0, by omega, rfl, World.ownsRow_nil _ _ _ _, Below.refl _ _⟩
  case round =>
    obtain ⟨k, hk, rfl, hown, hbel⟩ := hrel
    have c0 : wr.cell? ⟨w.heap.size, 0, none⟩ = some (.slice (some ⟨g, 0, none⟩) 3 cap) := cell_blk (i := 0) ((hbel.block _ hbwl).trans HBW.out) rfl
    have hsz := hbel.size
    by_cases hlt : k < 3
    · obtain ⟨c, hc, _⟩ := three_at (lineP x.data.toList) (lineN n) (lineT t) k hlt
      obtain ⟨b, hb, hbb⟩ := HCH.out k c hc
      have hcl : c.length ≤ 2000 := by
        match k, hlt with
        | 0, _ => simp at hc; subst hc; exact l1
        | 1, _ => simp at hc; subst hc; exact l2
        | 2, _ => simp at hc; subst hc; exact l3
      have hLl : (([lineP x.data.toList, lineN n, lineT t].take k).flatten).length ≤ 6000 := by
        match k, hlt with
        | 0, _ => simp
        | 1, _ => simp; omega
        | 2, _ => simp; omega
      have HF := hide (take_flat _ k c hc)
      have hbl := lt_of_block hbb
      have hbb' := (hbel.block b hbl).trans hbb
      have d1 : wr.cell? ⟨g, k, none⟩ = some (.slice (some ⟨b, 0, none⟩) c.length c.length) := cell_blk ((hbel.block g hgl0).trans HG.out) hb
      have hnews : ∀ j u, (Lib.byteCells c)[j]? = some u → wr.cell? ((⟨b, 0, none⟩ : Addr).add j) = some u := fun j u hu => by
        rw [Addr.add_lit, Nat.zero_add]
        exact cell_blk hbb' (by simpa [bys] using hu)
      have HN := hide hnews
      clear hb hbb hbb' hnews hc
      generalize ([lineP x.data.toList, lineN n, lineT t].take k).flatten = L at hown hLl HF
      go_wp2_with (at_builtin; refine wpList_append_own _ rfl _ _ 29 rfl w1.heap.size 5 i0 (.int .u8 0) 1 1 Ybaf.underlying29 hi0 hz0 hz1 hz2 rfl (by decide) _ _ _ rfl hown ⟨b, 0, none⟩ c.length c.length (Lib.byteCells c) rfl (by simp [Lib.byteCells]) HN.out (oneCell_bytes c) (by unfold maxLen; omega) (by omega) hsz ?_; intro v' w2 hown' hgrow _)
      go_roundw
      case rel => exact ⟨k + 1, by omega, by go_num, by rw [HF.out, List.length_append, byteCells_app]; exact hown', hbel.grown hgrow hsz (fun j hj => (hown.lt j hj).1)⟩
      case measure => simp [intOf]; omega
    · obtain rfl : k = 3 := by omega
      obtain ⟨gg, cg, rfl, hconv⟩ := conv_own wr _ _ _ hown hLne
      have hbB : Below w.heap.size w wr := hb1.trans (hbel.mono hs1)
      have hgglt := (hown.lt gg rfl).2
      have he : ((⟨(lineP x.data.toList).toArray⟩ : ByteArray) ++ ⟨(lineN n).toArray⟩ ++ ⟨(lineT t).toArray⟩ : ByteArray) = ⟨(([lineP x.data.toList, lineN n, lineT t].take 3).flatten).toArray⟩ := by
        apply ByteArray.ext
        simp
      generalize ([lineP x.data.toList, lineN n, lineT t].take 3).flatten = L3 at hown hconv he hLne ⊢
      have HE := hide he
      have HC := hide hconv
      clear he hconv
      go_wp2_with fail
      refine (lines_any x n t wr hx hn0 hn1 ht0 ht1 hn ht (tab_later HTab.out hbB hbB.size)).mono ?_
      rintro e w3 ⟨gl, rfl, hgl, hg3⟩
      have hb3 : Below w.heap.size w w3 := hbB.trans (Kept.grown hg3 hbB.size).below
      have e0 := cell_blk (i := 0) hgl rfl
      have e1 := cell_blk (i := 1) hgl rfl
      have e2 := cell_blk (i := 2) hgl rfl
      have hcv : ∀ nq, (convert 29 9 (.slice (some ⟨gg, 0, none⟩) L3.length cg)).run Ybaf.prog (w3.drewN nq) = .ok (.string ⟨L3.toArray⟩) (w3.drewN nq) := fun nq =>
        HC.out (w3.drewN nq) (hg3.block gg hgglt (by simp))
      have he := HE.out
      clear hgl
      generalize (⟨(lineP x.data.toList).toArray⟩ : ByteArray) = s1 at he e0 hsx
      generalize (⟨(lineN n).toArray⟩ : ByteArray) = s2 at he e1 hsn
      generalize (⟨(lineT t).toArray⟩ : ByteArray) = s3 at he e2 hst
      go_wp2_with fail
      go_quiet (fail)
      go_wp2
      go_ret
      exact ⟨rfl, below_drewN hb3 nq⟩
end Go.Proofs.YbulkafjeFmt
