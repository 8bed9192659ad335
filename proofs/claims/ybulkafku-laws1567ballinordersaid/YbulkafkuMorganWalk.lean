/-
  THE WALK OF 'LawS1567BDeMorgan'.
-/
import Derived.Test.YbulkafkuMake
namespace Go.Proofs.Ybulkafku
open Go.RowKit

/-- Two slices of the call's own lie in different rows. -/
def apartRows (v u : Value) : Prop := ∀ g, v.ownBlock = some g → u.ownBlock ≠ some g
theorem apart_symm {v u : Value} (h : apartRows v u) : apartRows u v := fun g h1 h2 => h g h2 h1

/-- One append to one of the two slices of terms: what becomes of both, of the log, of the flag. -/
theorem pair_step {wr w3 w : World} {B : Nat} {v v' u : Value} {qs ps : List Bool} {k j : Nat} {wt : Int} {bb bl : Nat} {a : Bool} {o : Obj} {gs : List Nat} {xs : List Int} (h1 : gs.length = (qs.take k).length)
    (h3 : ∀ (i g : Nat) (a : Bool), gs[i]? = some g → (qs.take k)[i]? = some a → wr.heap[g]? = some (.cells (termCells a i wt bb bl) 32 (0, 0))) (hv : wr.ownsRow B 42 1 v (qs.take k).length (gs.map termV)) (ha : qs[k]? = some a)
    (hg : ((wr.alloc (.cells (termCells a k wt bb bl) 32)).alloc o).grownBy w3 v.ownBlock) (hown : w3.ownsRow B 42 1 v' ((qs.take k).length + 1) (gs.map termV ++ [termV wr.heap.size]))
    (hloc : v'.ownBlock = v.ownBlock ∨ v'.ownBlock = some ((wr.alloc (.cells (termCells a k wt bb bl) 32)).alloc o).heap.size) (hu : Terms wr B u (ps.take j) wt bb bl) (hap : apartRows v u)
    (hL : LogIs wr B bl xs) (hb : wr.heap[bb]? = some (.cells #[.bool false] 4 (0, 0))) (hbe : Below B w wr) (hsz : B ≤ wr.heap.size) :
    Terms w3 B v' (qs.take (k + 1)) wt bb bl ∧ Terms w3 B u (ps.take j) wt bb bl ∧ apartRows v' u ∧ LogIs w3 B bl xs ∧ w3.heap[bb]? = some (.cells #[.bool false] 4 (0, 0)) ∧ Below B w w3 := by
  obtain ⟨_, _, hgr⟩ := alloc2 wr (.cells (termCells a k wt bb bl) 32) o
  have hv2 : ((wr.alloc (.cells (termCells a k wt bb bl) 32)).alloc o).ownsRow B 42 1 v (qs.take k).length (gs.map termV) := (hv.alloc _).alloc _
  have hu2 := hu.kept (Kept.grown hgr hsz)
  refine ⟨terms_step h1 h3 hv ha hg hown, hu2.but hg (fun g hg' e => hap g e hg') (own_row hv2), ?_, beside_step hv hg hL hb hbe hsz⟩
  intro g hg1 hg2
  obtain ⟨gs', _, h2', _⟩ := hu2
  have hlt := (h2'.lt g hg2).2
  rcases hloc with h | h
  · exact hap g (h ▸ hg1) hg2
  · rw [h] at hg1
    injection hg1 with hg1
    omega

theorem deMorgan (qs : List Bool) : qs.all id = !((qs.map not).any id) := by
  induction qs with
  | nil => rfl
  | cons q r ih =>
    cases q
    · simp
    · simpa using ih

set_option maxRecDepth 100000 in
set_option maxHeartbeats 2000000 in
theorem morgan_in (ao : Option Addr) (c : Nat) (qs : List Bool) (ad : Nat → Addr) (w : World) (hq : qs.length ≤ 1024)
    (hidx' : ∀ i, i < qs.length → ∀ w' : World, (Instr.indexAt 22 (.slice ao qs.length c) (.int .i64 i)).run Yba.prog w' = .ok (.pointer (some (ad i))) w')
    (hcell' : ∀ i a, qs[i]? = some a → w.cell? (ad i) = some (.bool a) ∧ (ad i).block < w.heap.size) :
    Calls Yba.prog 4 #[.slice ao qs.length c] w fun e w' => e = .returned (.bool true) ∧ Below w.heap.size w w' := by
  have HI := hide hidx'
  have HC := hide hcell'
  clear hidx' hcell'
  obtain ⟨mg, ml, mb, ms⟩ := madeLog_facts w w.heap.size (Nat.le_refl _)
  have hbm : Below w.heap.size w (madeLog w) := (Kept.grown mg (Nat.le_refl _)).below
  obtain ⟨i0, hi0, hz0, hz1, hz2⟩ := info_parts info42
  go_enter Yba.func4, Yba.ntmps4
  go_upto_block 0 with fail
  rw [show ((w.alloc (Obj.cells #[] 3)).alloc (Obj.cells #[Value.slice (some { block := w.heap.size, off := 0 }) 0 0] 26)).alloc (Obj.cells #[Value.bool false] 4) = madeLog w from rfl]
  have hlo : w.heap.size ≤ w.heap.size + 1 := by omega
  generalize hbl : w.heap.size + 1 = bl at ml mb hlo ⊢
  clear hbl
  generalize madeLog w = w2 at ml mb ms hbm mg ⊢
  clear mg ms
  go_cut [5, 6] from 14 to 42 (fun v u wr => Terms wr w.heap.size v qs 0 (bl + 1) bl ∧ Terms wr w.heap.size u (qs.map not) 0 (bl + 1) bl ∧ LogIs wr w.heap.size bl [] ∧ wr.heap[bl + 1]? = some (.cells #[.bool false] 4 (0, 0)) ∧ Below w.heap.size w wr)
  case first =>
    go_wp2_with fail
    go_loopw [5, 6, 7] (fun v u y wr => ∃ k : Nat, k ≤ qs.length ∧ y = .int .i64 k ∧ Terms wr w.heap.size v (qs.take k) 0 (bl + 1) bl ∧ Terms wr w.heap.size u ((qs.map not).take k) 0 (bl + 1) bl ∧ apartRows v u ∧ LogIs wr w.heap.size bl [] ∧ wr.heap[bl + 1]? = some (.cells #[.bool false] 4 (0, 0)) ∧ Below w.heap.size w wr) (fun _ _ y _ => qs.length - (intOf y).toNat)
    case atStart => exact ⟨0, Nat.zero_le _, rfl, ⟨[], rfl, World.ownsRow_nil _ _ _ _, fun i g a h => by simp at h⟩, ⟨[], rfl, World.ownsRow_nil _ _ _ _, fun i g a h => by simp at h⟩, fun g h => by simp [Value.ownBlock] at h, ml, mb, hbm⟩
    case round =>
      obtain ⟨k, hk, rfl, hT, hU, hap, hLg, hbd, hbe⟩ := hrel
      have hsz := hbe.size
      by_cases hlt : k < qs.length
      · obtain ⟨a, haa⟩ : ∃ a, qs[k]? = some a := ⟨qs[k], List.getElem?_eq_getElem hlt⟩
        have hnn : (qs.map not)[k]? = some (!a) := by simp [haa]
        obtain ⟨hcw, hcb⟩ := HC.out k a haa
        have hix := HI.out k hlt
        have hcx : wr.cell? (ad k) = some (.bool a) := (hbe.cell hcb).trans hcw
        obtain ⟨gs, g1, g2, g3⟩ := hT
        have hlen : (qs.take k).length = k := by rw [List.length_take]; omega
        have hlen2 : ((qs.map not).take k).length = k := by rw [List.length_take, List.length_map]; omega
        have HAA := hide haa
        have HNN := hide hnn
        have HG1 := hide g1
        have HG3 := hide g3
        have HBD := hide hbd
        have HLG := hide hLg
        have HLEN := hide hlen
        have HLEN2 := hide hlen2
        have HU := hide hU
        have HAP := hide hap
        clear haa hnn g1 g3 hbd hLg hcw hlen hlen2 hU hap
        go_wp2_with (first
          | (at_builtin
             refine wpList_append_own_at _ rfl (.tmp 20) (.tmp 29) 27 rfl w.heap.size 42 i0 .nilIface 1 16 Yba.underlying27 hi0 hz0 hz1 hz2 rfl (by decide) _ _ _ rfl ((g2.alloc _).alloc _) ⟨wr.heap.size + 1, 0, none⟩ 1 1 [termV wr.heap.size] rfl rfl (news_term _ _ _) (one_term _) (by rw [HLEN.out]; unfold maxLen; omega) (by rw [HLEN.out]; omega) (by simp; omega) ?_
             intro v' w3 hown' hgrow _ hloc
             have R := pair_step HG1.out HG3.out g2 HAA.out hgrow hown' hloc HU.out HAP.out HLG.out HBD.out hbe hsz
             have hbe3 := R.2.2.2.2.2
             have hcx3 : w3.cell? (ad k) = some (.bool a) := (hbe3.cell hcb).trans (HC.out k a HAA.out).1
             have HR := hide R
             obtain ⟨gn, n1, n2, n3⟩ := R.2.1
             have HN1 := hide n1
             have HN3 := hide n3
             have hsz3 := hbe3.size
             clear R hown' hgrow hloc n1 n3 hcx g2 hbe)
          | (at_builtin
             refine wpList_append_own_at _ rfl (.tmp 31) (.tmp 41) 27 rfl w.heap.size 42 i0 .nilIface 1 16 Yba.underlying27 hi0 hz0 hz1 hz2 rfl (by decide) _ _ _ rfl ((n2.alloc _).alloc _) ⟨w3.heap.size + 1, 0, none⟩ 1 1 [termV w3.heap.size] rfl rfl (news_term _ _ _) (one_term _) (by rw [HLEN2.out]; unfold maxLen; omega) (by rw [HLEN2.out]; omega) (by simp; omega) ?_
             intro u' w5 hown5 hgrow5 _ hloc5
             have R5 := pair_step HN1.out HN3.out n2 HNN.out hgrow5 hown5 hloc5 HR.out.1 (apart_symm HR.out.2.2.1) HR.out.2.2.2.1 HR.out.2.2.2.2.1 hbe3 hsz3
             have HR5 := hide R5
             clear R5 hown5 hgrow5 hloc5))
        go_roundw
        case rel => exact ⟨k + 1, by omega, by go_num, HR5.out.2.1, HR5.out.1, apart_symm HR5.out.2.2.1, HR5.out.2.2.2⟩
        case measure => simp [intOf]; omega
      · obtain rfl : k = qs.length := by omega
        rw [List.take_length] at hT
        rw [List.take_of_length_le (by simp)] at hU
        go_wp2_with fail
        go_meet
        case rel => exact ⟨hT, hU, hLg, hbd, hbe⟩
  case rest =>
    obtain ⟨hT, hU, hLg, hbd, hbe⟩ := hcut
    obtain ⟨ao', cap', g', rfl, _⟩ := hT.read
    obtain ⟨uo', ucap', ug', hu, _⟩ := hU.read
    rw [List.length_map] at hu
    subst hu
    have hsz := hbe.size
    obtain ⟨hn1, hn2, hga⟩ := alloc2 wc (Obj.cells #[Value.slice ao' qs.length cap'] 35) (Obj.cells #[Value.slice uo' qs.length ucap'] 39)
    have hK := Kept.grown hga hsz
    have hT2 := hT.kept hK
    have hU2 := hU.kept hK
    have hL2 := hLg.kept hga
    have hb2 := (hga.block _ (lt_of_block hbd) (by simp)).trans hbd
    have hbe2 := hbe.trans hK.below
    have hsz2 := hbe2.size
    clear hT hU hLg hbd hbe ml mb hbm hK hga
    have HB2 := hide hb2
    have HN1 := hide hn1
    have HN2 := hide hn2
    clear hb2 hn1 hn2
    have hml : (qs.map not).length = qs.length := by simp
    go_wp2_with fail
    refine (and_any w.heap.size wc.heap.size (bl + 1) bl (.slice ao' qs.length cap') qs 0 0 0 none [] _ HN1.out hT2 hL2 rfl (by simp; omega) hlo hsz2).mono ?_
    rintro e w3 ⟨rfl, hL3, hK3⟩
    rw [List.nil_append] at hL3
    have hb3 := hK3.old _ _ _ _ HB2.out (by decide) (by decide)
    have hn3 := hK3.old _ _ _ _ HN2.out (by decide) (by decide)
    have hU3 := hU2.kept hK3
    have hbe3 : Below w.heap.size w w3 := hbe2.trans hK3.below
    have hsz3 := hbe3.size
    have HB3 := hide hb3
    have HN3 := hide hn3
    clear hb3 hn3
    have hask : asked qs ≤ 1024 := by
      have := lead_le qs
      unfold asked; split <;> omega
    go_wp2_with fail
    refine (or_any w.heap.size (wc.heap.size + 1) (bl + 1) bl _ (qs.map not) 0 0 0 none _ _ HN3.out hU3 hL3 rfl (by rw [upto_len]; omega) hlo hsz3).mono ?_
    rintro e w4 ⟨rfl, hK4⟩
    have hb4 := hK4.old _ _ _ _ HB3.out (by decide) (by decide)
    have hbe4 : Below w.heap.size w w4 := hbe3.trans hK4.below
    have cb4 : w4.cell? ⟨bl + 1, 0, none⟩ = some (.bool false) := cell_blk hb4 rfl
    have hdm := deMorgan qs
    generalize qs.all id = x at hdm ⊢
    generalize (qs.map not).any id = y at hdm ⊢
    clear hb4 hK4 hK3 hL3 hU3 hU2 hT2
    subst hdm
    cases y
    · go_wp2
      go_ret
      exact ⟨rfl, hbe4⟩
    · go_wp2
      go_ret
      exact ⟨rfl, hbe4⟩
end Go.Proofs.Ybulkafku
