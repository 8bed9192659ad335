/-
  THE WALK OF 'LawS1567BAllInOrder'.
-/
import Derived.Test.YbulkafkuMake
namespace Go.Proofs.Ybulkafku
open Go.RowKit

theorem LogIs.read {w : World} {B bl : Nat} {xs : List Int} (h : LogIs w B bl xs) : ∃ ao cap g, w.heap[bl]? = some (.cells #[.slice ao xs.length cap] 26 (0, 0)) ∧ ∀ (i : Nat) (x : Int), xs[i]? = some x → (∀ w' : World, (Instr.indexAt 26 (.slice ao xs.length cap) (.int .i64 i)).run Yba.prog w' = .ok (.pointer (some ⟨g, i, none⟩)) w') ∧ w.cell? ⟨g, i, none⟩ = some (.int .i64 x) := by
  obtain ⟨v, h1, h2⟩ := h
  rcases h2.2 with ⟨rfl, h⟩ | ⟨g, cap, cur, rfl, hb, hg, _, _, _, ht⟩
  · refine ⟨none, 0, 0, by rw [h]; exact h1, fun i x hx => ?_⟩
    have := (List.getElem?_eq_some_iff.1 hx).1
    omega
  · refine ⟨some ⟨g, 0, none⟩, cap, g, h1, fun i x hx => ?_⟩
    have hi : i < xs.length := (List.getElem?_eq_some_iff.1 hx).1
    refine ⟨fun w' => ?_, cell_blk hg ?_⟩
    · rw [index_arg (t := 26) (by kernel_rfl) (fun w' => by kernel_rfl) ⟨g, 0, none⟩ xs.length cap i hi w', Addr.add_lit, Nat.zero_add]
    · have e : (cur.toList.take (xs.length * 1))[i]? = some (.int .i64 x) := by
        rw [ht]
        simp [ints, hx]
      rw [List.getElem?_take_of_lt (by omega)] at e
      simpa using e

set_option maxRecDepth 100000 in
set_option maxHeartbeats 1000000 in
theorem order_in (ao vo : Option Addr) (c L vc : Nat) (qs : List Bool) (ad : Nat → Addr) (w : World) (hq : qs.length ≤ 1024) (hL : L ≤ 1024)
    (hidx' : ∀ i, i < qs.length → ∀ w' : World, (Instr.indexAt 22 (.slice ao qs.length c) (.int .i64 i)).run Yba.prog w' = .ok (.pointer (some (ad i))) w')
    (hcell' : ∀ i a, qs[i]? = some a → w.cell? (ad i) = some (.bool a) ∧ (ad i).block < w.heap.size)
    (hbrow : Calls Yba.prog 5 #[.slice vo L vc] w fun e w' => (∃ ao c, e = .returned (.slice ao L c)) ∧ Below w.heap.size w w') :
    Calls Yba.prog 3 #[.slice ao qs.length c, .slice vo L vc] w fun e w' => e = .returned (.bool true) ∧ Below w.heap.size w w' := by
  have HI := hide hidx'
  have HC := hide hcell'
  have HBR := hide hbrow
  have hd1 : decide ((1024 : Int) < (qs.length : Nat)) = false := by rw [decide_eq_false_iff_not]; omega
  have hd2 : decide ((1024 : Int) < (L : Nat)) = false := by rw [decide_eq_false_iff_not]; omega
  clear hidx' hcell' hbrow
  go_enter Yba.func3, Yba.ntmps3
  go_wp2_with fail
  refine HBR.out.mono ?_
  rintro e w1 ⟨⟨ro, rc, rfl⟩, hb1⟩
  have hs1 := hb1.size
  obtain ⟨mg, ml, mb, ms⟩ := madeLog_facts w1 w.heap.size hs1
  have hbm : Below w.heap.size w (madeLog w1) := hb1.trans (Kept.grown mg hs1).below
  obtain ⟨i0, hi0, hz0, hz1, hz2⟩ := info_parts info42
  go_upto_block 0 with fail
  rw [show ((w1.alloc (Obj.cells #[] 3)).alloc (Obj.cells #[Value.slice (some { block := w1.heap.size, off := 0 }) 0 0] 26)).alloc (Obj.cells #[Value.bool false] 4) = madeLog w1 from rfl]
  have hlo : w.heap.size ≤ w1.heap.size + 1 := by omega
  generalize w1.heap.size + 1 = bl at ml mb hlo ⊢
  generalize madeLog w1 = w2 at ml mb ms hbm mg ⊢
  have hbbl : bl + 1 < w2.heap.size := lt_of_block mb
  clear mg ms
  go_cut [8] from 27 to 45 (fun v wr => Terms wr w.heap.size v qs L (bl + 1) bl ∧ LogIs wr w.heap.size bl [] ∧ wr.heap[bl + 1]? = some (.cells #[.bool false] 4 (0, 0)) ∧ Below w.heap.size w wr)
  case first =>
    go_wp2_with fail
    go_loopw [8, 9] (fun v y wr => ∃ k : Nat, k ≤ qs.length ∧ y = .int .i64 k ∧ Terms wr w.heap.size v (qs.take k) L (bl + 1) bl ∧ LogIs wr w.heap.size bl [] ∧ wr.heap[bl + 1]? = some (.cells #[.bool false] 4 (0, 0)) ∧ Below w.heap.size w wr) (fun _ y _ => qs.length - (intOf y).toNat)
    case atStart => exact ⟨0, Nat.zero_le _, rfl, ⟨[], rfl, World.ownsRow_nil _ _ _ _, fun i g a h => by simp at h⟩, ml, mb, hbm⟩
    case round =>
      obtain ⟨k, hk, rfl, hT, hLg, hbd, hbe⟩ := hrel
      have hsz := hbe.size
      by_cases hlt : k < qs.length
      · obtain ⟨a, haa⟩ : ∃ a, qs[k]? = some a := ⟨qs[k], List.getElem?_eq_getElem hlt⟩
        obtain ⟨hcw, hcb⟩ := HC.out k a haa
        have hix := HI.out k hlt
        have hcx : wr.cell? (ad k) = some (.bool a) := (hbe.cell hcb).trans hcw
        obtain ⟨gs, g1, g2, g3⟩ := hT
        have hlen : (qs.take k).length = k := by rw [List.length_take]; omega
        have HAA := hide haa
        have HG1 := hide g1
        have HG3 := hide g3
        have HBD := hide hbd
        have HLG := hide hLg
        have HLEN := hide hlen
        clear haa g1 g3 hbd hLg hcw hlen
        go_wp2_with (at_builtin; refine wpList_append_own_at _ rfl _ _ 27 rfl w.heap.size 42 i0 .nilIface 1 16 Yba.underlying27 hi0 hz0 hz1 hz2 rfl (by decide) _ _ _ rfl ((g2.alloc _).alloc _) ⟨wr.heap.size + 1, 0, none⟩ 1 1 [termV wr.heap.size] rfl rfl (news_term _ _ _) (one_term _) (by rw [HLEN.out]; unfold maxLen; omega) (by rw [HLEN.out]; omega) (by simp; omega) ?_; intro v' w3 hown' hgrow _ hloc)
        go_roundw
        case rel =>
          have R := beside_step g2 hgrow HLG.out HBD.out hbe hsz
          exact ⟨k + 1, by omega, by go_num, terms_step HG1.out HG3.out g2 HAA.out hgrow hown', R.1, R.2.1, R.2.2⟩
        case measure => simp [intOf]; omega
      · obtain rfl : k = qs.length := by omega
        rw [List.take_length] at hT
        go_wp2_with fail
        go_meet
        case rel => exact ⟨hT, hLg, hbd, hbe⟩
  case rest =>
    obtain ⟨hT, hLg, hbd, hbe⟩ := hcut
    obtain ⟨ao', cap', g', rfl, _⟩ := hT.read
    have hsz := hbe.size
    have hga := World.grownBy_alloc wc (Obj.cells #[Value.slice ao' qs.length cap'] 35) none
    have hT2 := hT.kept (Kept.grown hga hsz)
    have hL2 := hLg.kept hga
    have hb2 := (hga.block _ (lt_of_block hbd) (by simp)).trans hbd
    have hbe2 : Below w.heap.size w (wc.alloc (Obj.cells #[Value.slice ao' qs.length cap'] 35)) := hbe.alloc hsz _
    have hna := heap_alloc_new wc (Obj.cells #[Value.slice ao' qs.length cap'] 35)
    clear hT hLg hbd hbe ml mb hbm
    have HB2 := hide hb2
    have HNA := hide hna
    clear hb2 hna
    go_wp2_with fail
    refine (and_any w.heap.size wc.heap.size (bl + 1) bl (.slice ao' qs.length cap') qs L L rc ro [] _ HNA.out hT2 hL2 rfl (by simp; omega) hlo (by simp; omega)).mono ?_
    rintro e w3 ⟨rfl, hL3, hK3⟩
    rw [List.nil_append] at hL3
    have hb3 := hK3.old _ _ _ _ HB2.out (by decide) (by decide)
    have hbe3 : Below w.heap.size w w3 := hbe2.trans hK3.below
    obtain ⟨lo, lc, lg, hlb, hlr⟩ := hL3.read
    rw [upto_len] at hlb hlr
    have cb3 : w3.cell? ⟨bl + 1, 0, none⟩ = some (.bool false) := cell_blk hb3 rfl
    have cl3 : w3.cell? ⟨bl, 0, none⟩ = some (.slice lo (asked qs) lc) := cell_blk hlb rfl
    have HLR := hide hlr
    have hle := lead_le qs
    have HM : Hid (asked qs = if lead qs = qs.length then qs.length else lead qs + 1) := hide rfl
    have HALL := hide (lead_all qs)
    have HLF := hide (lead_false qs)
    have HLT := hide (lead_true qs)
    generalize asked qs = m at cl3 HLR HM
    generalize qs.all id = allv at HALL ⊢
    generalize hld : lead qs = ld at hle HALL HLF HLT HM
    have HLD := hide hld
    clear hld hL3 hK3 hT2 hL2 hb3 hlb hlr hbe2 hga
    go_upto_block 2 with fail
    go_cut [12] from 54 to 65 (fun x wr => x = .int .i64 ld ∧ wr = w3)
    case first =>
      go_wp2_with fail
      go_loop [12, 13] (fun x y => ∃ i : Nat, i ≤ ld ∧ x = .int .i64 qs.length ∧ y = .int .i64 i) (fun _ y => qs.length - (intOf y).toNat)
      case atStart => exact ⟨0, Nat.zero_le _, rfl, rfl⟩
      case round =>
        obtain ⟨i, hi, rfl, rfl⟩ := hrel
        by_cases hlt : i < qs.length
        · have hix := HI.out i hlt
          by_cases hl2 : i < ld
          · obtain ⟨hcw, hcb⟩ := HC.out i true (HLT.out i hl2)
            have hcx : w3.cell? (ad i) = some (.bool true) := (hbe3.cell hcb).trans hcw
            clear hcw
            go_wp2
            go_round
            case rel => exact ⟨i + 1, by omega, rfl, by go_num⟩
            case measure => simp [intOf]; omega
          · obtain rfl : i = ld := by omega
            obtain ⟨hcw, hcb⟩ := HC.out i false (HLF.out hlt)
            have hcx : w3.cell? (ad i) = some (.bool false) := (hbe3.cell hcb).trans hcw
            clear hcw
            go_wp2_with fail
            go_meet
            case rel => exact ⟨rfl, rfl⟩
        · go_wp2_with fail
          go_meet
          case rel => exact ⟨by rw [show qs.length = ld by omega], rfl⟩
    case rest =>
      obtain ⟨rfl, hw⟩ := hcut
      have hw' := hw.symm
      subst hw'
      clear hw
      by_cases hfull : ld = qs.length
      · obtain rfl : allv = true := by rw [HALL.out, beq_iff_eq]; exact hfull
        obtain rfl : m = qs.length := by rw [HM.out, if_pos hfull]
        clear HLF HLT HM HALL HLD HC HI
        subst hfull
        go_upto_block 4 with fail
        go_cut [] from 83 to 94 (fun wr => wr = w3)
        case first =>
          go_wp2_with fail
          go_loop [15] (fun y => ∃ i : Nat, i ≤ qs.length ∧ y = .int .i64 i) (fun y => qs.length - (intOf y).toNat)
          case atStart => exact ⟨0, Nat.zero_le _, rfl⟩
          case round =>
            obtain ⟨i, hi, rfl⟩ := hrel
            by_cases hlt : i < qs.length
            · obtain ⟨hix, hci⟩ := HLR.out i (i : Int) (by simp [upto, hlt])
              go_wp2
              go_round
              case rel => exact ⟨i + 1, by omega, by go_num⟩
              case measure => simp [intOf]; omega
            · go_wp2_with fail
              go_meet
              case rel => exact rfl
        case rest =>
          subst hcut
          go_wp2
          go_ret
          exact ⟨rfl, hbe3⟩
      · obtain rfl : allv = false := by rw [HALL.out, beq_eq_false_iff_ne]; exact hfull
        obtain rfl : m = ld + 1 := by rw [HM.out, if_neg hfull]
        have hbf : ((ld : Int) == (qs.length : Nat)) = false := by rw [beq_eq_false_iff_ne]; omega
        clear HLF HLT HM HALL HLD HC HI
        go_upto_block 4 with fail
        go_cut [] from 83 to 94 (fun wr => wr = w3)
        case first =>
          go_wp2_with fail
          go_loop [15] (fun y => ∃ i : Nat, i ≤ (ld + 1) ∧ y = .int .i64 i) (fun y => (ld + 1) - (intOf y).toNat)
          case atStart => exact ⟨0, Nat.zero_le _, rfl⟩
          case round =>
            obtain ⟨i, hi, rfl⟩ := hrel
            by_cases hlt : i < (ld + 1)
            · obtain ⟨hix, hci⟩ := HLR.out i (i : Int) (by simp [upto, hlt])
              go_wp2
              go_round
              case rel => exact ⟨i + 1, by omega, by go_num⟩
              case measure => simp [intOf]; omega
            · go_wp2_with fail
              go_meet
              case rel => exact rfl
        case rest =>
          subst hcut
          go_wp2
          go_ret
          exact ⟨rfl, hbe3⟩
end Go.Proofs.Ybulkafku
