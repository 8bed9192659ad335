/-
  THE WALK OF 'consensus.LawS1564APlan' where f0 zeros let both sides have their majority.
-/
import Derived.Test.YbulkafjePlanParts
namespace Go.Proofs.Ybulkafje
open Go.RowKit
namespace Plan
set_option linter.unusedVariables false      -- bounds that the walk's own arithmetic uses

set_option maxRecDepth 100000 in
set_option maxHeartbeats 1000000 in
theorem law_some (a0 a1 a2 a3 : Int) (a4 : Bool) (a5 : Int) (N M f0 : Nat) (w : World) (h00 : 0 ≤ a0) (h01 : a0 ≤ 255) (h10 : 0 ≤ a1) (h11 : a1 ≤ 65535) (h20 : 0 ≤ a2) (h21 : a2 ≤ 65535) (h30 : 0 ≤ a3) (h31 : a3 ≤ 255) (hN' : a0 % 12 + 1 = N) (hM' : a3 % (N + 1) = M) (w5 : (Lit.int .i64 a5).wf = true) (hkeys' : wrap64 (a5 + 1) ≠ a5 ∧ wrap64 (a5 + 2) ≠ a5 ∧ wrap64 (a5 + 2) ≠ wrap64 (a5 + 1))
    (hf0 : f0 ≤ (fsOf a1 N).length) (hyes' : good N M (nz (bsOf a1 a2 N)) (no (bsOf a1 a2 N)) (fsOf a1 N).length f0 = true) (hno' : ∀ j, j < f0 → good N M (nz (bsOf a1 a2 N)) (no (bsOf a1 a2 N)) (fsOf a1 N).length j = false) :
    Calls Yba.prog 3 #[.int .u8 a0, .int .u16 a1, .int .u16 a2, .int .u8 a3, .bool a4, .int .i64 a5] w fun e w' => e = .returned (.bool true) ∧ Below w.heap.size w w' := by
  have hN12 : N ≤ 12 := by omega
  have hN1 : 1 ≤ N := by omega
  have hM12 : M ≤ 12 := by
    have h1 := Int.emod_lt_of_pos a3 (show (0 : Int) < N + 1 by omega)
    omega
  obtain ⟨i0, hi0, hz0, hz1, hz2⟩ := info_parts info3
  have hno := hide hno'
  have hyes := hide hyes'
  have hkeys := hide hkeys'
  clear hno' hkeys' hyes'
  have hmm := @run_makeMap Yba.prog
  go_enter Yba.func3, Yba.ntmps3
  go_upto_block 0 with fail
  go_cut [14, 15] from 45 to 63 (fun f c wr => ∃ af gf cF ac gc cC, f = .slice af (fsOf a1 N).length cF ∧ c = .slice ac (csOf a1 N).length cC ∧ Row wr af gf (fsOf a1 N) ∧ Row wr ac gc (csOf a1 N) ∧ Below w.heap.size w wr)
  case first =>
    go_wp2_with fail
    go_loopw [14, 15, 16] (fun f c x wr => ∃ p : Nat, p ≤ N ∧ x = .int .i64 p ∧ wr.ownsRow w.heap.size 3 1 f (fsOf a1 p).length (ivals (fsOf a1 p)) ∧ wr.ownsRow w.heap.size 3 1 c (csOf a1 p).length (ivals (csOf a1 p)) ∧ apartRows f c ∧ Below w.heap.size w wr) (fun _ _ x _ => N - (intOf x).toNat)
    case atStart => exact ⟨0, Nat.zero_le _, rfl, World.ownsRow_nil _ _ _ _, World.ownsRow_nil _ _ _ _, fun g h => by simp [Value.ownBlock] at h, Below.refl _ _⟩
    case round =>
      obtain ⟨p, hp, rfl, hof, hoc, hap, hbl⟩ := hrel
      have hfl := fsOf_len a1 p
      have hcl := csOf_len a1 p
      have hbs := hbl.size
      by_cases hlt : p < N
      · cases hb : isF a1 p
        · have hbt : (bits .and .u16 (a1 / 2 ^ p) 1 == 1) = false := hb
          have HB := hide hb
          clear hb
          go_wp2_with (first | (at_builtin; refine wpList_append_own_at _ rfl _ _ 23 rfl w.heap.size 3 i0 (.int .i64 0) 1 8 Yba.underlying23 hi0 hz0 hz1 hz2 rfl (by decide) _ _ _ rfl (hoc.alloc _) ⟨wr.heap.size, 0, none⟩ 1 1 [.int .i64 (p : Int)] rfl rfl (cell_one_new _ _ _) (ints_oneCell .i64 [(p : Int)]) (by unfold maxLen; omega) (by omega) (by simp; omega) ?_; intro v' w1 hown' hgrow hnil hloc) | go_in)
          obtain ⟨e1, e2⟩ := cs_step a1 p HB.out
          obtain ⟨k1, k2⟩ := rows_step hof (apart_symm hap) hgrow hloc
          go_roundw
          case rel => exact ⟨p + 1, by omega, by go_num, by rw [e1]; exact k1, by rw [e2, ivals_snoc, List.length_append]; exact hown', apart_symm k2, (hbl.alloc hbs _).grown hgrow (by simp; omega) (fun k hk => (hoc.lt k hk).1)⟩
          case measure => simp [intOf]; omega
        · have hbt : (bits .and .u16 (a1 / 2 ^ p) 1 == 1) = true := hb
          have HB := hide hb
          clear hb
          go_wp2_with (first | (at_builtin; refine wpList_append_own_at _ rfl _ _ 23 rfl w.heap.size 3 i0 (.int .i64 0) 1 8 Yba.underlying23 hi0 hz0 hz1 hz2 rfl (by decide) _ _ _ rfl (hof.alloc _) ⟨wr.heap.size, 0, none⟩ 1 1 [.int .i64 (p : Int)] rfl rfl (cell_one_new _ _ _) (ints_oneCell .i64 [(p : Int)]) (by unfold maxLen; omega) (by omega) (by simp; omega) ?_; intro v' w1 hown' hgrow hnil hloc) | go_in)
          obtain ⟨e1, e2⟩ := fs_step a1 p HB.out
          obtain ⟨k1, k2⟩ := rows_step hoc hap hgrow hloc
          go_roundw
          case rel => exact ⟨p + 1, by omega, by go_num, by rw [e1, ivals_snoc, List.length_append]; exact hown', by rw [e2]; exact k1, k2, (hbl.alloc hbs _).grown hgrow (by simp; omega) (fun k hk => (hof.lt k hk).1)⟩
          case measure => simp [intOf]; omega
      · obtain rfl : p = N := by omega
        obtain ⟨af, gf, cF, rfl, hRf⟩ := row_of_owns hof
        obtain ⟨ac, gc, cC, rfl, hRc⟩ := row_of_owns hoc
        go_wp2_with fail
        go_meet
        case rel => exact ⟨af, gf, cF, ac, gc, cC, rfl, rfl, hRf, hRc, hbl⟩
  case rest =>
    obtain ⟨af, gf, cF, ac, gc, cC, rfl, rfl, hRf, hRc, hbl⟩ := hcut
    have hfl := fsOf_len a1 N
    have hcl := csOf_len a1 N
    go_upto_if 69 with fail
    go_cut [18] from 69 to 69 (fun x wr => x = .int .u8 (wvOf a4) ∧ wr = wc)
    case first =>
      cases a4
      · go_wp2_with fail
        go_meet
        case rel => exact ⟨rfl, rfl⟩
      · go_wp2_with fail
        go_meet
        case rel => exact ⟨rfl, rfl⟩
    case rest =>
      obtain ⟨rfl, rfl⟩ := hcut
      have hwv := wvOf_01 a4
      generalize wvOf a4 = wv at hwv ⊢
      go_wp2_with fail
      have hA0 := madeAdv_adv wc N (fsOf a1 N).length M af cF ac (csOf a1 N).length cC wv
      have hR0 := madeAdv_rounds wc N (fsOf a1 N).length M af cF ac (csOf a1 N).length cC wv
      have hB0 := madeAdv_but wc N (fsOf a1 N).length M af cF ac (csOf a1 N).length cC wv
      have hS0 := madeAdv_size wc N (fsOf a1 N).length M af cF ac (csOf a1 N).length cC wv
      refine Calls.mono (round_new (wc.heap.size + 1) wc.heap.size 0 N (fun _ => none) a5 (madeAdv wc N (fsOf a1 N).length M af cF ac (csOf a1 N).length cC wv) hA0.n hA0.rounds hR0 w5 rfl hN12 (by omega)) ?_
      rintro e w1 ⟨b1, v1, r1, rfl, hb1l, hv1l, hbv, hb1, hv1, hR1, hg1⟩
      rw [hS0] at hb1l hv1l
      have hsz1 := hg1.size
      rw [hS0] at hsz1
      have hblc := hbl.size
      have hA1 := hA0.kept (hg1.block _ hA0.lt (by simp))
      have kk : ∀ b, b < wc.heap.size → w1.heap[b]? = wc.heap[b]? := fun b hb => (hg1.block b (by omega) (by simp; omega)).trans (hB0.block b hb (by simp))
      have hRf1 := hRf.kept' (fun hx => kk gf (hRf.lt hx))
      have hRc1 := hRc.kept' (fun hx => kk gc (hRc.lt hx))
      have hbl1 : Below w.heap.size w w1 := hbl.trans ⟨hg1.os.trans hB0.os, hg1.tape.trans hB0.tape, hg1.output.trans hB0.output, by omega, fun k hk => kk k (by omega)⟩
      have hgf : fsOf a1 N ≠ [] → gf < wc.heap.size := fun hx => hRf.lt hx
      have hgc : csOf a1 N ≠ [] → gc < wc.heap.size := fun hx => hRc.lt hx
      have HGf := hide hgf
      have HGc := hide hgc
      clear hA0 hR0 hB0 hS0 hg1 kk hRf hRc hbl hgf hgc
      obtain ⟨bs, hbsd⟩ : ∃ bs, bs = bsOf a1 a2 N := ⟨_, rfl⟩
      have hbsl : bs.length = (csOf a1 N).length := by rw [hbsd]; exact bsOf_len a1 a2 N
      have HBat : Hid (∀ i, i < (csOf a1 N).length → bs.getD i 0 = bitOf a2 ((csOf a1 N).getD i 0)) := by rw [hbsd]; exact bsOf_at a1 a2 N
      have HCl : Hid (∀ i, i < (csOf a1 N).length → (csOf a1 N).getD i 0 < N) := csOf_lt a1 N
      rw [← hbsd] at hno hyes
      clear hbsd
      have hb1w := lt_of_block hb1
      have hv1w := lt_of_block hv1
      go_upto_block 2 with fail
      go_cut [21, 22] from 87 to 110 (fun z o wr => z = .int .i64 (nz bs : Nat) ∧ o = .int .i64 (no bs : Nat) ∧ But [v1] w1 wr ∧ wr.heap[v1]? = some (.cells (vals (putN (List.replicate N 0) (csOf a1 N) (fun j => bs.getD j 0) (csOf a1 N).length)) 25 (0, 0)))
      case first =>
        go_wp2_with fail
        go_loopw [21, 22, 87] (fun z o x wr => ∃ i : Nat, i ≤ (csOf a1 N).length ∧ x = .int .i64 i ∧ z = .int .i64 (nz (bs.take i) : Nat) ∧ o = .int .i64 (no (bs.take i) : Nat) ∧ But [v1] w1 wr ∧ wr.heap[v1]? = some (.cells (vals (putN (List.replicate N 0) (csOf a1 N) (fun j => bs.getD j 0) i)) 25 (0, 0))) (fun _ _ x _ => (csOf a1 N).length - (intOf x).toNat)
        case atStart => exact ⟨0, Nat.zero_le _, rfl, rfl, rfl, But.refl _ _, hv1⟩
        case round =>
          obtain ⟨i, hi, rfl, rfl, rfl, hbut, hq⟩ := hrel
          have hz12 := nz_le (bs.take i)
          have ho12 := no_le (bs.take i)
          have hlb : (bs.take i).length ≤ (csOf a1 N).length := by rw [List.length_take]; omega
          have hpl := putN_length (List.replicate N 0) (csOf a1 N) (fun j => bs.getD j 0) i
          rw [List.length_replicate] at hpl
          by_cases hlt : i < (csOf a1 N).length
          · have hne : csOf a1 N ≠ [] := by intro e; rw [e] at hlt; simp at hlt
            have hgcl := HGc.out hne
            have hix := hRc1.index hlt cC
            have hci := (hRc1.kept (hbut.block gc (by omega) (by simp; omega))).cell hlt
            have hpN := HCl.out i hlt
            have hbi := HBat.out i hlt
            have h01 := bitOf_01 a2 ((csOf a1 N).getD i 0) h20 h21
            rw [← hbi] at h01
            have hzt := hide (nz_take bs i (by omega))
            have hot := hide (no_take bs i (by omega))
            have HP : Hid (putN (List.replicate N 0) (csOf a1 N) (fun j => bs.getD j 0) (i + 1) = (putN (List.replicate N 0) (csOf a1 N) (fun j => bs.getD j 0) i).set ((csOf a1 N).getD i 0) (bs.getD i 0)) := hide rfl
            generalize hp : (csOf a1 N).getD i 0 = p at hci hpN hbi HP
            clear hp
            generalize putN (List.replicate N 0) (csOf a1 N) (fun j => bs.getD j 0) i = L at hq hpl HP
            generalize nz (bs.take i) = z at hz12 hzt ⊢
            generalize no (bs.take i) = o at ho12 hot ⊢
            have hc1 : wr.cell? ⟨b1, 0, none⟩ = some (.slice (some ⟨v1, 0, none⟩) N N) := cell_blk ((hbut.block b1 hb1w (by simp; exact hbv)).trans hb1) rfl
            have hcv : wr.cell? ⟨v1, p, none⟩ = some (.int .u8 (L.getD p 0)) := cell_blk hq (vals_at (by omega))
            have hfv : wr.frozen? ⟨v1, p, none⟩ = false := free_blk hq
            have HQ := hide hq
            clear hq hne
            rcases h01 with h01 | h01
            · rw [h01] at hzt hot HP hbi
              have hbit : IntKind.u8.wrap (bits .and .u16 (a2 / 2 ^ p) 1) = 0 := hbi.symm
              clear h01 hbi
              go_wp2
              go_roundw
              case rel => exact ⟨i + 1, by omega, by go_num, by rw [hzt.out]; simp, by rw [hot.out]; simp, hbut.setCell (Or.inl (by simp)) _, by rw [set_blk HQ.out, HP.out, vals_set]⟩
              case measure => simp [intOf]; omega
            · rw [h01] at hzt hot HP hbi
              have hbit : IntKind.u8.wrap (bits .and .u16 (a2 / 2 ^ p) 1) = 1 := hbi.symm
              clear h01 hbi
              go_wp2
              go_roundw
              case rel => exact ⟨i + 1, by omega, by go_num, by rw [hzt.out]; simp, by rw [hot.out]; simp, hbut.setCell (Or.inl (by simp)) _, by rw [set_blk HQ.out, HP.out, vals_set]⟩
              case measure => simp [intOf]; omega
          · obtain rfl : i = (csOf a1 N).length := by omega
            rw [List.take_of_length_le (by omega)]
            go_wp2_with fail
            go_meet
            case rel => exact ⟨rfl, rfl, hbut, hq⟩
      case rest =>
        obtain ⟨rfl, rfl, hbut, hq⟩ := hcut
        have hav : _ ≠ v1 := hA1.ne hv1 (by decide)
        have hmv : v1 ≠ _ := hR1.ne hv1
        have hA2 := hA1.kept (hbut.block _ hA1.lt (by simp; exact hav))
        have hR2 := hR1.kept (hbut.block _ hR1.lt (by simp; exact hmv.symm))
        have hb1c := (hbut.block b1 hb1w (by simp; exact hbv)).trans hb1
        have hRf2 := hRf1.kept' (fun hx => hbut.block gf (hRf1.lt hx) (by simp; exact hRf1.ne hx hv1 (by decide)))
        have hRc2 := hRc1.kept' (fun hx => hbut.block gc (hRc1.lt hx) (by simp; exact hRc1.ne hx hv1 (by decide)))
        have hbl2 : Below w.heap.size w wc := hbl1.trans (hbut.below hbl1.size (by simp; omega))
        have hLl := putN_length (List.replicate N 0) (csOf a1 N) (fun j => bs.getD j 0) (csOf a1 N).length
        rw [List.length_replicate] at hLl
        have HL : Hid (∀ i, i < (csOf a1 N).length → (putN (List.replicate N 0) (csOf a1 N) (fun j => bs.getD j 0) (csOf a1 N).length).getD ((csOf a1 N).getD i 0) 0 = bs.getD i 0) := fun i hi =>
          putN_at (List.replicate N 0) (csOf a1 N) (fun j => bs.getD j 0) (csOf_ne a1 N) (fun j hj => by rw [List.length_replicate]; exact csOf_lt a1 N j hj) i _ (Nat.le_refl _) hi
        have HLf : Hid (∀ i, i < (fsOf a1 N).length → (putN (List.replicate N 0) (csOf a1 N) (fun j => bs.getD j 0) (csOf a1 N).length).getD ((fsOf a1 N).getD i 0) 0 = 0) := fun i hi => by
          rw [putN_other (List.replicate N 0) (csOf a1 N) (fun j => bs.getD j 0) _ _ (Nat.le_refl _) (fun j hj e => apart a1 N i j hi hj e.symm)]
          exact rep_getD _ _
        have HB01 : Hid (∀ i, i < (csOf a1 N).length → bs.getD i 0 = 0 ∨ bs.getD i 0 = 1) := fun i hi => by
          rw [HBat.out i hi]; exact bitOf_01 a2 _ h20 h21
        generalize putN (List.replicate N 0) (csOf a1 N) (fun j => bs.getD j 0) (csOf a1 N).length = L at hq hLl HL HLf
        have hz12 := nz_le bs
        have ho12 := no_le bs
        clear hA1 hR1 hb1 hv1 hRf1 hRc1 hbl1 hbut
        go_upto_block 4 with fail
        go_cut [27] from 113 to 138 (fun x wr => x = .int .i64 f0 ∧ wr = wc)
        case first =>
          go_wp2_with fail
          go_loop [27, 28] (fun x y => ∃ j : Nat, (j ≤ f0 ∧ x = .int .i64 (-1) ∧ y = .int .i64 j) ∨ (j = f0 + 1 ∧ x = .int .i64 f0 ∧ y = .int .i64 j)) (fun _ y => f0 + 1 - (intOf y).toNat)
          case atStart => exact ⟨0, Or.inl ⟨Nat.zero_le _, rfl, rfl⟩⟩
          case round =>
            obtain ⟨j, hj⟩ := hrel
            rcases hj with ⟨hj, rfl, rfl⟩ | ⟨hj, rfl, rfl⟩
            · have hd : decide ((j : Int) ≤ ((fsOf a1 N).length : Nat)) = true := by simp; omega
              by_cases hlt : j < f0
              · have hg := hno.out j hlt
                unfold good at hg
                obtain ⟨q1, H1⟩ : ∃ b, Hid (okB (lo false M) N M ((nz bs : Nat) + j) = b) := ⟨_, hide rfl⟩
                obtain ⟨q2, H2⟩ : ∃ b, Hid (okB (lo true M) N M ((no bs : Nat) + (fsOf a1 N).length - j) = b) := ⟨_, hide rfl⟩
                rw [H1.out, H2.out] at hg
                go_wp2_with fail
                refine (side_false N M ((nz bs : Nat) + j) _ (by omega) (by omega) (by omega) (by omega) (by omega) (by omega)).mono ?_
                rintro e w' ⟨rfl, hw⟩
                rw [hw, H1.out]
                clear hw
                cases q1
                · go_wp2
                  go_round
                  case rel => exact ⟨j + 1, Or.inl ⟨by omega, rfl, by go_num⟩⟩
                  case measure => simp [intOf]; omega
                · cases q2
                  · go_wp2_with fail
                    refine (side_true N M ((no bs : Nat) + (fsOf a1 N).length - j) _ (by omega) (by omega) (by omega) (by omega) (by omega) (by omega)).mono ?_
                    rintro e w' ⟨rfl, hw⟩
                    rw [hw, H2.out]
                    clear hw
                    go_wp2
                    go_round
                    case rel => exact ⟨j + 1, Or.inl ⟨by omega, rfl, by go_num⟩⟩
                    case measure => simp [intOf]; omega
                  · simp at hg
              · obtain rfl : j = f0 := by omega
                have hg := hyes.out
                unfold good at hg
                rw [Bool.and_eq_true] at hg
                have H1 : Hid (okB (lo false M) N M ((nz bs : Nat) + j) = true) := hg.1
                have H2 : Hid (okB (lo true M) N M ((no bs : Nat) + (fsOf a1 N).length - j) = true) := hg.2
                clear hg
                go_wp2_with fail
                refine (side_false N M ((nz bs : Nat) + j) _ (by omega) (by omega) (by omega) (by omega) (by omega) (by omega)).mono ?_
                rintro e w' ⟨rfl, hw⟩
                rw [hw, H1.out]
                clear hw
                go_wp2_with fail
                refine (side_true N M ((no bs : Nat) + (fsOf a1 N).length - j) _ (by omega) (by omega) (by omega) (by omega) (by omega) (by omega)).mono ?_
                rintro e w' ⟨rfl, hw⟩
                rw [hw, H2.out]
                clear hw
                go_wp2
                go_round
                case rel => exact ⟨j + 1, Or.inr ⟨rfl, rfl, by go_num⟩⟩
                case measure => simp [intOf]
            · subst hj
              by_cases hlt : f0 + 1 ≤ (fsOf a1 N).length
              · have hd : decide (((f0 + 1 : Nat) : Int) ≤ ((fsOf a1 N).length : Nat)) = true := by rw [decide_eq_true_iff]; omega
                have hd2 : decide ((f0 : Int) < 0) = false := by rw [decide_eq_false_iff_not]; omega
                go_wp2_with fail
                go_meet
                case rel => exact ⟨rfl, rfl⟩
              · have hd : decide (((f0 + 1 : Nat) : Int) ≤ ((fsOf a1 N).length : Nat)) = false := by rw [decide_eq_false_iff_not]; omega
                go_wp2_with fail
                go_meet
                case rel => exact ⟨rfl, rfl⟩
        case rest =>
          obtain ⟨rfl, hw⟩ := hcut
          subst hw
          obtain ⟨k1, k2, k12⟩ := hkeys.out
          go_wp2_with fail
          refine (plan_some _ _ _ N M gf gc b1 v1 cF cC f0 wv af ac (fsOf a1 N) (csOf a1 N) bs L _ a5 _ wc hA2 hR2 w5 (by simp [upd]) (by simp only [upd, if_neg k1]) (by simp only [upd, if_neg k2]) k12 (by omega) hb1c hq hRc2 hRf2 hLl hN12 hM12 (by omega) (by omega) hwv.1 hwv.2 HCl.out (fsOf_lt a1 N) hbsl HL.out HB01.out hf0 hyes.out hno.out).mono ?_
          rintro e w3 ⟨rfl, hbut3, hb1d, hqd, b2, v2, r2, b3, v3, r3, hb2d, hv2d, hb3d, hv3d, hR3⟩
          have hna : _ ≠ b1 := hA2.ne hb1c (by decide)
          have hnv : _ ≠ v1 := hA2.ne hq (by decide)
          have hnm := hA2.neMap hR2
          have hmb : b1 ≠ _ := hR2.ne hb1c
          have hmv2 : v1 ≠ _ := hR2.ne hq
          have hA3 := hA2.kept (hbut3.block _ hA2.lt (by simp only [List.mem_cons, List.not_mem_nil, or_false, not_or]; exact ⟨hna, hnv, hnm⟩))
          have hRf3 := hRf2.kept' (fun hx => hbut3.block gf (hRf2.lt hx) (by simp; exact ⟨hRf2.ne hx hb1c (by decide), hRf2.ne hx hq (by decide), hRf2.neMap hx hR2⟩))
          have hRc3 := hRc2.kept' (fun hx => hbut3.block gc (hRc2.lt hx) (by simp; exact ⟨hRc2.ne hx hb1c (by decide), hRc2.ne hx hq (by decide), hRc2.neMap hx hR2⟩))
          have hbl3 : Below w.heap.size w w3 := hbl2.trans (hbut3.below hbl2.size (by simp; omega))
          have hl1 : ∀ n, (Instr.lookup 32 (.map (some _)) (.int .i64 (wrap64 (a5 + 1))) false).run Yba.prog (w3.drewN n) = .ok (.pointer (some ⟨b2, 0, none⟩)) (w3.drewN n) := fun n => by
            have := (hR3.kept (w' := w3.drewN n) rfl).look (wrap64_wf (a5 + 1))
            simp only [upd, if_neg k12.symm, if_pos, ptrOf] at this
            exact this
          have hl2 : ∀ n, (Instr.lookup 32 (.map (some _)) (.int .i64 (wrap64 (a5 + 2))) false).run Yba.prog (w3.drewN n) = .ok (.pointer (some ⟨b3, 0, none⟩)) (w3.drewN n) := fun n => by
            have := (hR3.kept (w' := w3.drewN n) rfl).look (wrap64_wf (a5 + 2))
            simp only [upd, if_pos, ptrOf] at this
            exact this
          have hLl2 := putN_length L (fsOf a1 N) (g1 f0) (fsOf a1 N).length
          rw [hLl] at hLl2
          have HL2 : Hid (∀ i, i < (csOf a1 N).length → (putN L (fsOf a1 N) (g1 f0) (fsOf a1 N).length).getD ((csOf a1 N).getD i 0) 0 = bs.getD i 0) := fun i hi => by
            rw [putN_other L (fsOf a1 N) (g1 f0) _ _ (Nat.le_refl _) (fun j hj => apart a1 N j i hj hi)]
            exact HL.out i hi
          have HF2 : Hid (∀ i, i < (fsOf a1 N).length → (putN L (fsOf a1 N) (g1 f0) (fsOf a1 N).length).getD ((fsOf a1 N).getD i 0) 0 = g1 f0 i) := fun i hi =>
            putN_at L (fsOf a1 N) (g1 f0) (fsOf_ne a1 N) (fun j hj => by rw [hLl]; exact fsOf_lt a1 N j hj) i _ (Nat.le_refl _) hi
          have rl : ∀ j, j < (fsOf a1 N).length → (fsOf a1 N).getD j 0 < (List.replicate N (0 : Int)).length := fun j hj => by rw [List.length_replicate]; exact fsOf_lt a1 N j hj
          have HS1 : Hid (∀ i, i < (fsOf a1 N).length → (putN (List.replicate N 0) (fsOf a1 N) (fun _ => wv) (fsOf a1 N).length).getD ((fsOf a1 N).getD i 0) 0 = wv) := fun i hi =>
            putN_at (List.replicate N 0) (fsOf a1 N) (fun _ => wv) (fsOf_ne a1 N) rl i _ (Nat.le_refl _) hi
          have HT1 : Hid (∀ i, i < (fsOf a1 N).length → (putN (List.replicate N 0) (fsOf a1 N) (fun _ => wv + 2) (fsOf a1 N).length).getD ((fsOf a1 N).getD i 0) 0 = wv + 2) := fun i hi =>
            putN_at (List.replicate N 0) (fsOf a1 N) (fun _ => wv + 2) (fsOf_ne a1 N) rl i _ (Nat.le_refl _) hi
          have HS2 : Hid (∀ i, i < (csOf a1 N).length → (putN (List.replicate N 0) (fsOf a1 N) (fun _ => wv) (fsOf a1 N).length).getD ((csOf a1 N).getD i 0) 0 = 0) := fun i hi => by
            rw [putN_other (List.replicate N 0) (fsOf a1 N) (fun _ => wv) _ _ (Nat.le_refl _) (fun j hj => apart a1 N j i hj hi)]
            exact rep_getD _ _
          have HT2 : Hid (∀ i, i < (csOf a1 N).length → (putN (List.replicate N 0) (fsOf a1 N) (fun _ => wv + 2) (fsOf a1 N).length).getD ((csOf a1 N).getD i 0) 0 = 0) := fun i hi => by
            rw [putN_other (List.replicate N 0) (fsOf a1 N) (fun _ => wv + 2) _ _ (Nat.le_refl _) (fun j hj => apart a1 N j i hj hi)]
            exact rep_getD _ _
          have hl3 := putN_length (List.replicate N 0) (fsOf a1 N) (fun _ => wv) (fsOf a1 N).length
          have hl4 := putN_length (List.replicate N 0) (fsOf a1 N) (fun _ => wv + 2) (fsOf a1 N).length
          rw [List.length_replicate] at hl3 hl4
          generalize putN L (fsOf a1 N) (g1 f0) (fsOf a1 N).length = L1 at hqd hLl2 HL2 HF2
          generalize putN (List.replicate N 0) (fsOf a1 N) (fun _ => wv) (fsOf a1 N).length = L2 at hv2d HS1 HS2 hl3
          generalize putN (List.replicate N 0) (fsOf a1 N) (fun _ => wv + 2) (fsOf a1 N).length = L3 at hv3d HT1 HT2 hl4
          have c10 : w3.cell? ⟨b1, 0, none⟩ = some (.slice (some ⟨v1, 0, none⟩) N N) := cell_blk hb1d rfl
          have c11 : w3.cell? ⟨b1, 1, none⟩ = some (.bool true) := cell_blk hb1d rfl
          have c20 : w3.cell? ⟨b2, 0, none⟩ = some (.slice (some ⟨v2, 0, none⟩) N N) := cell_blk hb2d rfl
          have c30 : w3.cell? ⟨b3, 0, none⟩ = some (.slice (some ⟨v3, 0, none⟩) N N) := cell_blk hb3d rfl
          have ca := hA3.rounds
          have HQ1 := hide hqd
          have HQ2 := hide hv2d
          have HQ3 := hide hv3d
          clear hA2 hR2 hb1c hq hRf2 hRc2 hbl2 hbut3 hb1d hqd hb2d hv2d hb3d hv3d k1 k2 k12 hno hyes hA3 hR3 rl hna hnv hnm hmb hmv2 HL HLf
          go_upto_block 6 with fail
          go_cut [] from 144 to 162 (fun wr => wr = w3)
          case first =>
            go_wp2_with fail
            go_loop [144] (fun x => ∃ i : Nat, i ≤ (csOf a1 N).length ∧ x = .int .i64 i) (fun x => (csOf a1 N).length - (intOf x).toNat)
            case atStart => exact ⟨0, Nat.zero_le _, rfl⟩
            case round =>
              obtain ⟨i, hi, rfl⟩ := hrel
              by_cases hlt : i < (csOf a1 N).length
              · have hix := hRc3.index hlt cC
                have hci := hRc3.cell hlt
                have hpN := HCl.out i hlt
                have hbi := HBat.out i hlt
                have hLi := HL2.out i hlt
                generalize (csOf a1 N).getD i 0 = p at hci hpN hbi hLi
                have hcv : w3.cell? ⟨v1, p, none⟩ = some (.int .u8 (L1.getD p 0)) := cell_blk HQ1.out (vals_at (by omega))
                rw [hLi] at hcv
                generalize bs.getD i 0 = b at hbi hcv
                have hbit : IntKind.u8.wrap (bits .and .u16 (a2 / 2 ^ p) 1) = b := hbi.symm
                clear hbi hLi
                go_wp2
                go_round
                case rel => exact ⟨i + 1, by omega, by go_num⟩
                case measure => simp [intOf]; omega
              · go_wp2_with fail
                go_meet
                case rel => exact rfl
          case rest =>
            have hcut' := hcut.symm
            subst hcut'
            clear hcut
            go_wp2_with fail
            go_quiet (fail)
            have hRf4 := hRf3.kept (w' := w3.drewN nq) rfl
            have hRc4 := hRc3.kept (w' := w3.drewN nq) rfl
            have d10 : (w3.drewN nq).cell? ⟨b1, 0, none⟩ = some (.slice (some ⟨v1, 0, none⟩) N N) := c10
            have d20 : (w3.drewN nq).cell? ⟨b2, 0, none⟩ = some (.slice (some ⟨v2, 0, none⟩) N N) := c20
            have d30 : (w3.drewN nq).cell? ⟨b3, 0, none⟩ = some (.slice (some ⟨v3, 0, none⟩) N N) := c30
            have HD1 : Hid ((w3.drewN nq).heap[v1]? = some (.cells (vals L1) 25 (0, 0))) := HQ1
            have HD2 : Hid ((w3.drewN nq).heap[v2]? = some (.cells (vals L2) 25 (0, 0))) := HQ2
            have HD3 : Hid ((w3.drewN nq).heap[v3]? = some (.cells (vals L3) 25 (0, 0))) := HQ3
            have hbl4 : Below w.heap.size w (w3.drewN nq) := below_drewN hbl3 nq
            generalize w3.drewN nq = w4 at hRf4 hRc4 d10 d20 d30 HD1 HD2 HD3 hbl4 ⊢
            clear hRf3 hRc3 c10 c11 c20 c30 HQ1 HQ2 HQ3 hbl3 hl1 hl2 ca
            go_upto_block 10 with fail
            go_cut [] from 238 to 278 (fun wr => wr = w4)
            case first =>
              go_wp2_with fail
              go_loop [238] (fun x => ∃ i : Nat, i ≤ (fsOf a1 N).length ∧ x = .int .i64 i) (fun x => (fsOf a1 N).length - (intOf x).toNat)
              case atStart => exact ⟨0, Nat.zero_le _, rfl⟩
              case round =>
                obtain ⟨i, hi, rfl⟩ := hrel
                by_cases hlt : i < (fsOf a1 N).length
                · have hix := hRf4.index hlt cF
                  have hci := hRf4.cell hlt
                  have hpN := fsOf_lt a1 N i hlt
                  have hF2 := HF2.out i hlt
                  have hS1 := HS1.out i hlt
                  have hT1 := HT1.out i hlt
                  generalize (fsOf a1 N).getD i 0 = p at hci hpN hF2 hS1 hT1
                  have e1 : w4.cell? ⟨v1, p, none⟩ = some (.int .u8 (L1.getD p 0)) := cell_blk HD1.out (vals_at (by omega))
                  have e2 : w4.cell? ⟨v2, p, none⟩ = some (.int .u8 (L2.getD p 0)) := cell_blk HD2.out (vals_at (by omega))
                  have e3 : w4.cell? ⟨v3, p, none⟩ = some (.int .u8 (L3.getD p 0)) := cell_blk HD3.out (vals_at (by omega))
                  rw [hF2] at e1
                  rw [hS1] at e2
                  rw [hT1] at e3
                  clear hF2 hS1 hT1
                  by_cases hz : i < f0
                  · have hg : g1 f0 i = 0 := by unfold g1; rw [if_pos hz]
                    rw [hg] at e1
                    clear hg
                    go_wp2
                    go_round
                    case rel => exact ⟨i + 1, by omega, by go_num⟩
                    case measure => simp [intOf]; omega
                  · have hg : g1 f0 i = 1 := by unfold g1; rw [if_neg hz]
                    rw [hg] at e1
                    clear hg
                    go_wp2
                    go_round
                    case rel => exact ⟨i + 1, by omega, by go_num⟩
                    case measure => simp [intOf]; omega
                · go_wp2_with fail
                  go_meet
                  case rel => exact rfl
            case rest =>
              have hcut' := hcut.symm
              subst hcut'
              clear hcut
              go_upto_block 12 with fail
              go_cut [] from 281 to 303 (fun wr => wr = w4)
              case first =>
                go_wp2_with fail
                go_loop [281] (fun x => ∃ i : Nat, i ≤ (csOf a1 N).length ∧ x = .int .i64 i) (fun x => (csOf a1 N).length - (intOf x).toNat)
                case atStart => exact ⟨0, Nat.zero_le _, rfl⟩
                case round =>
                  obtain ⟨i, hi, rfl⟩ := hrel
                  by_cases hlt : i < (csOf a1 N).length
                  · have hix := hRc4.index hlt cC
                    have hci := hRc4.cell hlt
                    have hpN := HCl.out i hlt
                    have hS2 := HS2.out i hlt
                    have hT2 := HT2.out i hlt
                    generalize (csOf a1 N).getD i 0 = p at hci hpN hS2 hT2
                    have e2 : w4.cell? ⟨v2, p, none⟩ = some (.int .u8 (L2.getD p 0)) := cell_blk HD2.out (vals_at (by omega))
                    have e3 : w4.cell? ⟨v3, p, none⟩ = some (.int .u8 (L3.getD p 0)) := cell_blk HD3.out (vals_at (by omega))
                    rw [hS2] at e2
                    rw [hT2] at e3
                    clear hS2 hT2
                    go_wp2
                    go_round
                    case rel => exact ⟨i + 1, by omega, by go_num⟩
                    case measure => simp [intOf]; omega
                  · go_wp2_with fail
                    go_meet
                    case rel => exact rfl
              case rest =>
                subst hcut
                go_wp2
                go_ret
                exact ⟨rfl, hbl4⟩
end Plan
end Go.Proofs.Ybulkafje
