import Derived.Test.YbulkafjePlanHeap
namespace Go.Proofs.Ybulkafje
open Go.RowKit
namespace Plan

/-- The adversary's struct in block ba: the fields that the walks read. -/
structure Adv (w : World) (ba bm N M : Nat) (wv : Int) (af ac : Option Addr) (F cF C cC : Nat) : Prop where
  n : w.cell? ⟨ba, 0, none⟩ = some (.int .i64 N)
  m : w.cell? ⟨ba, 2, none⟩ = some (.int .i64 M)
  faulty : w.cell? ⟨ba, 3, none⟩ = some (.slice af F cF)
  correct : w.cell? ⟨ba, 4, none⟩ = some (.slice ac C cC)
  wv : w.cell? ⟨ba, 5, none⟩ = some (.int .u8 wv)
  rounds : w.cell? ⟨ba, 13, none⟩ = some (.map (some bm))
  blk : ∃ cs : Array Value, w.heap[ba]? = some (.cells cs 35 (0, 0))
theorem Adv.lt {w : World} {ba bm N M : Nat} {wv : Int} {af ac : Option Addr} {F cF C cC : Nat} (h : Adv w ba bm N M wv af ac F cF C cC) : ba < w.heap.size := World.block_lt_of_cell? w _ h.n
theorem Adv.kept {w w' : World} {ba bm N M : Nat} {wv : Int} {af ac : Option Addr} {F cF C cC : Nat} (h : Adv w ba bm N M wv af ac F cF C cC) (hb : w'.heap[ba]? = w.heap[ba]?) : Adv w' ba bm N M wv af ac F cF C cC :=
  ⟨(World.cell?_of_block hb).trans h.n, (World.cell?_of_block hb).trans h.m, (World.cell?_of_block hb).trans h.faulty, (World.cell?_of_block hb).trans h.correct, (World.cell?_of_block hb).trans h.wv, (World.cell?_of_block hb).trans h.rounds, by obtain ⟨cs, h⟩ := h.blk; exact ⟨cs, hb.trans h⟩⟩
theorem Adv.ne {w : World} {ba bm N M : Nat} {wv : Int} {af ac : Option Addr} {F cF C cC : Nat} (h : Adv w ba bm N M wv af ac F cF C cC) {b : Nat} {cs : Array Value} {t : TypeId} {fz : Nat × Nat} (hb : w.heap[b]? = some (.cells cs t fz)) (ht : t ≠ 35) : ba ≠ b := by
  obtain ⟨cur, h2⟩ := h.blk
  rintro rfl
  rw [h2] at hb
  simp at hb
  exact ht hb.2.1.symm
theorem Adv.neMap {w : World} {ba bm N M : Nat} {wv : Int} {af ac : Option Addr} {F cF C cC : Nat} (h : Adv w ba bm N M wv af ac F cF C cC) {n : Nat} {f : Int → Option Nat} (hR : Rounds w bm n f) : ba ≠ bm := by
  obtain ⟨cur, h2⟩ := h.blk
  exact hR.ne h2

set_option maxHeartbeats 1000000 in
theorem plan_none (ba bm n N M gc b1 v1 cF cC : Nat) (wv : Int) (af ac : Option Addr) (fs cs : List Nat) (bs L : List Int) (f : Int → Option Nat) (k : Int) (r1 : Value) (w : World)
    (hA : Adv w ba bm N M wv af ac fs.length cF cs.length cC) (hR : Rounds w bm n f) (hk : (Lit.int .i64 k).wf = true) (hf : f k = some b1)
    (hb1 : w.heap[b1]? = some (.cells #[.slice (some ⟨v1, 0, none⟩) N N, .bool false, .bool false, r1] 41 (0, 0))) (hv1 : w.heap[v1]? = some (.cells (vals L) 25 (0, 0)))
    (hrc : Row w ac gc cs) (hL : L.length = N) (hN : N ≤ 12) (hM : M ≤ 12) (hc12 : cs.length ≤ 12) (hf12 : fs.length ≤ 12)
    (hcN : ∀ i, i < cs.length → cs.getD i 0 < N) (hbs : bs.length = cs.length) (hLb : ∀ i, i < cs.length → L.getD (cs.getD i 0) 0 = bs.getD i 0) (hb01 : ∀ i, i < cs.length → bs.getD i 0 = 0 ∨ bs.getD i 0 = 1)
    (hno' : ∀ j, j < fs.length + 1 → good N M (nz bs) (no bs) fs.length j = false) :
    Calls Yba.prog 7 #[.pointer (some ⟨ba, 0, none⟩), .int .i64 k] w fun e w' => e = .returned (.bool false) ∧ But [] w w' := by
  have hno := hide hno'
  clear hno'
  have hHc := hide hcN
  have hHL := hide hLb
  have hH01 := hide hb01
  clear hcN hLb hb01
  have hba := hA.lt
  have hb1l := lt_of_block hb1
  have hv1l := lt_of_block hv1
  have hcor := hA.correct
  go_enter Yba.func7, Yba.ntmps7
  go_wp2_with fail
  refine (round_old ba bm n b1 f k w hA.rounds hR hk hf).mono ?_
  rintro e w' ⟨rfl, hw⟩
  have hw2 := hw.symm
  subst hw2
  clear hw
  go_wp2_with fail
  go_loopw [23] (fun x wr => ∃ i : Nat, i ≤ cs.length ∧ x = .int .i64 i ∧ But [] w wr ∧ wr.heap[w.heap.size]? = some (.cells #[.int .i64 (nz (bs.take i) : Nat), .int .i64 (no (bs.take i) : Nat)] 48 (0, 0))) (fun x _ => cs.length - (intOf x).toNat)
  case atStart => exact ⟨0, Nat.zero_le _, rfl, (But.refl _ _).alloc _, by rw [heap_alloc_new]; rfl⟩
  case round =>
    obtain ⟨i, hi, rfl, hbut, hheld⟩ := hrel
    have kb : ∀ b, b < w.heap.size → wr.heap[b]? = w.heap[b]? := fun b hb => hbut.block b hb (by simp)
    have HK := hide kb
    clear kb
    have hz12 := nz_le (bs.take i)
    have ho12 := no_le (bs.take i)
    have hlb : (bs.take i).length ≤ cs.length := by rw [List.length_take]; omega
    by_cases hlt : i < cs.length
    · have hix := hrc.index hlt cC
      have hci := (hrc.kept' (fun hx => HK.out gc (hrc.lt hx))).cell hlt
      have hpN := hHc.out i hlt
      have hLi := hHL.out i hlt
      have h01 := hH01.out i hlt
      have hzt := hide (nz_take bs i (by omega))
      have hot := hide (no_take bs i (by omega))
      generalize hp : cs.getD i 0 = p at hci hpN hLi
      clear hp
      generalize hz : nz (bs.take i) = z at hheld hz12 hzt
      generalize ho : no (bs.take i) = o at hheld ho12 hot
      clear hz ho
      have hc1 : wr.cell? ⟨b1, 0, none⟩ = some (.slice (some ⟨v1, 0, none⟩) N N) := cell_blk ((HK.out b1 hb1l).trans hb1) rfl
      have hcv : wr.cell? ⟨v1, p, none⟩ = some (.int .u8 (L.getD p 0)) := cell_blk ((HK.out v1 hv1l).trans hv1) (vals_at (by omega))
      rw [hLi] at hcv
      have hh0 : wr.cell? ⟨w.heap.size, 0, none⟩ = some (.int .i64 z) := cell_blk hheld rfl
      have hh1 : wr.cell? ⟨w.heap.size, 1, none⟩ = some (.int .i64 o) := cell_blk hheld rfl
      have hf0 : wr.frozen? ⟨w.heap.size, 0, none⟩ = false := free_blk hheld
      have hf1 : wr.frozen? ⟨w.heap.size, 1, none⟩ = false := free_blk hheld
      have HH := hide hheld
      clear hheld hLi
      rcases h01 with h01 | h01
      · rw [h01] at hcv hzt hot
        clear h01
        go_wp2
        go_roundw
        case rel => exact ⟨i + 1, by omega, by go_num, hbut.setCell (Or.inr (Nat.le_refl _)) _, by rw [set_blk HH.out, hzt.out, hot.out]; simp⟩
        case measure => simp [intOf]; omega
      · rw [h01] at hcv hzt hot
        clear h01
        go_wp2
        go_roundw
        case rel => exact ⟨i + 1, by omega, by go_num, hbut.setCell (Or.inr (Nat.le_refl _)) _, by rw [set_blk HH.out, hzt.out, hot.out]; simp⟩
        case measure => simp [intOf]; omega
    · obtain rfl : i = cs.length := by omega
      rw [List.take_of_length_le (by omega)] at hheld hz12 ho12
      have hh0 : wr.cell? ⟨w.heap.size, 0, none⟩ = some (.int .i64 (nz bs : Nat)) := cell_blk hheld rfl
      have hh1 : wr.cell? ⟨w.heap.size, 1, none⟩ = some (.int .i64 (no bs : Nat)) := cell_blk hheld rfl
      have hA' := hA.kept (HK.out ba hba)
      clear hheld
      go_wp2_with fail
      refine (faultyZeros_none ba N M (nz bs : Nat) (no bs : Nat) fs.length cF af wr hA'.n hA'.m hA'.faulty (by omega) (by omega) (by omega) (by omega) (by omega) (by omega) (by omega) (by omega) (by omega) hno.out).mono ?_
      rintro e w' ⟨rfl, m, hm⟩
      subst hm
      go_wp2
      go_ret
      exact ⟨rfl, hbut.drewN _⟩

/-- The three rounds' values, in the blocks v1, v2, v3; all else is as in w2. -/
structure St (w2 wq : World) (v1 v2 v3 : Nat) (L1 L2 L3 : List Int) : Prop where
  but : But [v1, v2, v3] w2 wq
  q1 : wq.heap[v1]? = some (.cells (vals L1) 25 (0, 0))
  q2 : wq.heap[v2]? = some (.cells (vals L2) 25 (0, 0))
  q3 : wq.heap[v3]? = some (.cells (vals L3) 25 (0, 0))
theorem St.set1 {w2 wq : World} {v1 v2 v3 : Nat} {L1 L2 L3 : List Int} (h : St w2 wq v1 v2 v3 L1 L2 L3) (a : v2 ≠ v1) (b : v3 ≠ v1) (p : Nat) (x : Int) : St w2 (wq.setCell ⟨v1, p, none⟩ (.int .u8 x)) v1 v2 v3 (L1.set p x) L2 L3 :=
  ⟨h.but.setCell (Or.inl (by simp)) _, by rw [set_blk h.q1, vals_set], by rw [Below.heap_setCell _ _ _ _ a]; exact h.q2, by rw [Below.heap_setCell _ _ _ _ b]; exact h.q3⟩
theorem St.set2 {w2 wq : World} {v1 v2 v3 : Nat} {L1 L2 L3 : List Int} (h : St w2 wq v1 v2 v3 L1 L2 L3) (a : v1 ≠ v2) (b : v3 ≠ v2) (p : Nat) (x : Int) : St w2 (wq.setCell ⟨v2, p, none⟩ (.int .u8 x)) v1 v2 v3 L1 (L2.set p x) L3 :=
  ⟨h.but.setCell (Or.inl (by simp)) _, by rw [Below.heap_setCell _ _ _ _ a]; exact h.q1, by rw [set_blk h.q2, vals_set], by rw [Below.heap_setCell _ _ _ _ b]; exact h.q3⟩
theorem St.set3 {w2 wq : World} {v1 v2 v3 : Nat} {L1 L2 L3 : List Int} (h : St w2 wq v1 v2 v3 L1 L2 L3) (a : v1 ≠ v3) (b : v2 ≠ v3) (p : Nat) (x : Int) : St w2 (wq.setCell ⟨v3, p, none⟩ (.int .u8 x)) v1 v2 v3 L1 L2 (L3.set p x) :=
  ⟨h.but.setCell (Or.inl (by simp)) _, by rw [Below.heap_setCell _ _ _ _ a]; exact h.q1, by rw [Below.heap_setCell _ _ _ _ b]; exact h.q2, by rw [set_blk h.q3, vals_set]⟩
theorem St.drew {w2 wq : World} {v1 v2 v3 : Nat} {L1 L2 L3 : List Int} (h : St w2 wq v1 v2 v3 L1 L2 L3) : St w2 wq.drew v1 v2 v3 L1 L2 L3 := ⟨h.but.drew, h.q1, h.q2, h.q3⟩

def g1 (f0 : Nat) (j : Nat) : Int := if j < f0 then 0 else 1

set_option maxHeartbeats 2000000 in
theorem plan_some (ba bm n N M gf gc b1 v1 cF cC f0 : Nat) (wv : Int) (af ac : Option Addr) (fs cs : List Nat) (bs L : List Int) (f : Int → Option Nat) (k : Int) (r1 : Value) (w : World)
    (hA : Adv w ba bm N M wv af ac fs.length cF cs.length cC) (hR : Rounds w bm n f) (hk : (Lit.int .i64 k).wf = true) (hf : f k = some b1) (hf1 : f (wrap64 (k + 1)) = none) (hf2 : f (wrap64 (k + 2)) = none) (hk12 : wrap64 (k + 2) ≠ wrap64 (k + 1)) (hn : n < 90)
    (hb1 : w.heap[b1]? = some (.cells #[.slice (some ⟨v1, 0, none⟩) N N, .bool false, .bool false, r1] 41 (0, 0))) (hv1 : w.heap[v1]? = some (.cells (vals L) 25 (0, 0)))
    (hrc : Row w ac gc cs) (hrf : Row w af gf fs) (hL : L.length = N) (hN : N ≤ 12) (hM : M ≤ 12) (hc12 : cs.length ≤ 12) (hf12 : fs.length ≤ 12) (hwv0 : 0 ≤ wv) (hwv1 : wv ≤ 1)
    (hcN : ∀ i, i < cs.length → cs.getD i 0 < N) (hfN : ∀ i, i < fs.length → fs.getD i 0 < N) (hbs : bs.length = cs.length) (hLb : ∀ i, i < cs.length → L.getD (cs.getD i 0) 0 = bs.getD i 0) (hb01 : ∀ i, i < cs.length → bs.getD i 0 = 0 ∨ bs.getD i 0 = 1)
    (hf0 : f0 ≤ fs.length) (hyes' : good N M (nz bs) (no bs) fs.length f0 = true) (hno' : ∀ j, j < f0 → good N M (nz bs) (no bs) fs.length j = false) :
    Calls Yba.prog 7 #[.pointer (some ⟨ba, 0, none⟩), .int .i64 k] w fun e w' => e = .returned (.bool true) ∧ But [b1, v1, bm] w w' ∧
      w'.heap[b1]? = some (.cells #[.slice (some ⟨v1, 0, none⟩) N N, .bool true, .bool false, r1] 41 (0, 0)) ∧ w'.heap[v1]? = some (.cells (vals (putN L fs (g1 f0) fs.length)) 25 (0, 0)) ∧
      ∃ b2 v2 r2 b3 v3 r3, w'.heap[b2]? = some (.cells #[.slice (some ⟨v2, 0, none⟩) N N, .bool false, .bool false, r2] 41 (0, 0)) ∧ w'.heap[v2]? = some (.cells (vals (putN (List.replicate N 0) fs (fun _ => wv) fs.length)) 25 (0, 0)) ∧
        w'.heap[b3]? = some (.cells #[.slice (some ⟨v3, 0, none⟩) N N, .bool false, .bool false, r3] 41 (0, 0)) ∧ w'.heap[v3]? = some (.cells (vals (putN (List.replicate N 0) fs (fun _ => wv + 2) fs.length)) 25 (0, 0)) ∧
        Rounds w' bm (n + 2) (upd (upd f (wrap64 (k + 1)) b2) (wrap64 (k + 2)) b3) := by
  have hyes := hide hyes'
  have hno := hide hno'
  have hHc := hide hcN
  have hHf := hide hfN
  have hHL := hide hLb
  have hH01 := hide hb01
  have Hf1 := hide hf1
  have Hf2 := hide hf2
  have Hk12 := hide hk12
  clear hcN hLb hb01 hyes' hno' hfN hf1 hf2 hk12
  have hba := hA.lt
  have hb1l := lt_of_block hb1
  have hv1l := lt_of_block hv1
  have hcor := hA.correct
  go_enter Yba.func7, Yba.ntmps7
  go_wp2_with fail
  refine (round_old ba bm n b1 f k w hA.rounds hR hk hf).mono ?_
  rintro e w' ⟨rfl, hw⟩
  have hw2 := hw.symm
  subst hw2
  clear hw
  go_wp2_with fail
  go_loopw [23] (fun x wr => ∃ i : Nat, i ≤ cs.length ∧ x = .int .i64 i ∧ But [] w wr ∧ wr.heap[w.heap.size]? = some (.cells #[.int .i64 (nz (bs.take i) : Nat), .int .i64 (no (bs.take i) : Nat)] 48 (0, 0))) (fun x _ => cs.length - (intOf x).toNat)
  case atStart => exact ⟨0, Nat.zero_le _, rfl, (But.refl _ _).alloc _, by rw [heap_alloc_new]; rfl⟩
  case round =>
    obtain ⟨i, hi, rfl, hbut, hheld⟩ := hrel
    have kb : ∀ b, b < w.heap.size → wr.heap[b]? = w.heap[b]? := fun b hb => hbut.block b hb (by simp)
    have HK := hide kb
    clear kb
    have hz12 := nz_le (bs.take i)
    have ho12 := no_le (bs.take i)
    have hlb : (bs.take i).length ≤ cs.length := by rw [List.length_take]; omega
    by_cases hlt : i < cs.length
    · have hix := hrc.index hlt cC
      have hci := (hrc.kept' (fun hx => HK.out gc (hrc.lt hx))).cell hlt
      have hpN := hHc.out i hlt
      have hLi := hHL.out i hlt
      have h01 := hH01.out i hlt
      have hzt := hide (nz_take bs i (by omega))
      have hot := hide (no_take bs i (by omega))
      generalize hp : cs.getD i 0 = p at hci hpN hLi
      clear hp
      generalize hz : nz (bs.take i) = z at hheld hz12 hzt
      generalize ho : no (bs.take i) = o at hheld ho12 hot
      clear hz ho
      have hc1 : wr.cell? ⟨b1, 0, none⟩ = some (.slice (some ⟨v1, 0, none⟩) N N) := cell_blk ((HK.out b1 hb1l).trans hb1) rfl
      have hcv : wr.cell? ⟨v1, p, none⟩ = some (.int .u8 (L.getD p 0)) := cell_blk ((HK.out v1 hv1l).trans hv1) (vals_at (by omega))
      rw [hLi] at hcv
      have hh0 : wr.cell? ⟨w.heap.size, 0, none⟩ = some (.int .i64 z) := cell_blk hheld rfl
      have hh1 : wr.cell? ⟨w.heap.size, 1, none⟩ = some (.int .i64 o) := cell_blk hheld rfl
      have hf0 : wr.frozen? ⟨w.heap.size, 0, none⟩ = false := free_blk hheld
      have hf1 : wr.frozen? ⟨w.heap.size, 1, none⟩ = false := free_blk hheld
      have HH := hide hheld
      clear hheld hLi
      rcases h01 with h01 | h01
      · rw [h01] at hcv hzt hot
        clear h01
        go_wp2
        go_roundw
        case rel => exact ⟨i + 1, by omega, by go_num, hbut.setCell (Or.inr (Nat.le_refl _)) _, by rw [set_blk HH.out, hzt.out, hot.out]; simp⟩
        case measure => simp [intOf]; omega
      · rw [h01] at hcv hzt hot
        clear h01
        go_wp2
        go_roundw
        case rel => exact ⟨i + 1, by omega, by go_num, hbut.setCell (Or.inr (Nat.le_refl _)) _, by rw [set_blk HH.out, hzt.out, hot.out]; simp⟩
        case measure => simp [intOf]; omega
    · obtain rfl : i = cs.length := by omega
      rw [List.take_of_length_le (by omega)] at hheld hz12 ho12
      have hh0 : wr.cell? ⟨w.heap.size, 0, none⟩ = some (.int .i64 (nz bs : Nat)) := cell_blk hheld rfl
      have hh1 : wr.cell? ⟨w.heap.size, 1, none⟩ = some (.int .i64 (no bs : Nat)) := cell_blk hheld rfl
      have hA' := hA.kept (HK.out ba hba)
      clear hheld
      go_wp2_with fail
      refine (faultyZeros_some ba N M (nz bs : Nat) (no bs : Nat) fs.length cF af f0 wr hA'.n hA'.m hA'.faulty (by omega) (by omega) (by omega) (by omega) (by omega) (by omega) (by omega) (by omega) (by omega) hf0 hyes.out hno.out).mono ?_
      rintro e w' ⟨rfl, m, hm⟩
      have hbutA : But [] w w' := by rw [hm]; exact hbut.drewN _
      clear hm
      have hAa := hA.kept (hbutA.block ba hba (by simp))
      have hRa := hR.kept (hbutA.block bm hR.lt (by simp))
      go_wp2_with fail
      refine (round_new ba bm n N f (wrap64 (k + 1)) w' hAa.n hAa.rounds hRa (wrap64_wf _) Hf1.out hN (by omega)).mono ?_
      rintro e w1 ⟨b2, v2, r2, rfl, hb2l, hv2l, hb2v2, hb2, hv2, hR1, hg1⟩
      have hA1 := hAa.kept (hg1.block ba hAa.lt (by simp; exact hA.neMap hR))
      go_wp2_with fail
      refine (round_new ba bm (n + 1) N (upd f (wrap64 (k + 1)) b2) (wrap64 (k + 2)) w1 hA1.n hA1.rounds hR1 (wrap64_wf _) (by unfold upd; rw [if_neg Hk12.out]; exact Hf2.out) hN (by omega)).mono ?_
      rintro e w2 ⟨b3, v3, r3, rfl, hb3l, hv3l, hb3v3, hb3, hv3, hR2, hg2⟩
      have hA2 := hA1.kept (hg2.block ba hA1.lt (by simp; exact hA.neMap hR))
      have hfa2 := hA2.faulty
      have hbmA : bm < w.heap.size := hR.lt
      have hszA := hbutA.size
      have hsz1 := hg1.size
      have hsz2 := hg2.size
      have eb1 : b1 ≠ bm := hR.ne hb1
      have ev1 : v1 ≠ bm := hR.ne hv1
      have ebv : b1 ≠ v1 := by
        rintro rfl
        rw [hb1] at hv1
        simp at hv1
      have hb2' := lt_of_block hb2
      have hv2' := lt_of_block hv2
      have hb3' := lt_of_block hb3
      have hv3' := lt_of_block hv3
      have kk : ∀ b, b < w.heap.size → b ≠ bm → w2.heap[b]? = w.heap[b]? := fun b hb hne =>
        (hg2.block b (by omega) (by simp; exact hne)).trans ((hg1.block b (by omega) (by simp; exact hne)).trans (hbutA.block b hb (by simp)))
      have jb1 := (kk b1 hb1l eb1).trans hb1
      have jv1 := (kk v1 hv1l ev1).trans hv1
      have jb2 := (hg2.block b2 hb2' (by simp; omega)).trans hb2
      have jv2 := (hg2.block v2 hv2' (by simp; omega)).trans hv2
      have jrf : Row w2 af gf fs := hrf.kept' (fun hx => kk gf (hrf.lt hx) (hrf.neMap hx hR))
      have jfv : fs ≠ [] → gf ≠ v1 ∧ gf ≠ v2 ∧ gf ≠ v3 := fun hx => ⟨jrf.ne hx jv1 (by decide), jrf.ne hx jv2 (by decide), jrf.ne hx hv3 (by decide)⟩
      have eav : ba ≠ v1 := hA.ne hv1 (by decide)
      have eav2 : ba ≠ v2 := by omega
      have eav3 : ba ≠ v3 := by omega
      have hbut2 : But [b1, v1, bm] w w2 := ⟨hg2.os.trans (hg1.os.trans hbutA.os), hg2.tape.trans (hg1.tape.trans hbutA.tape), hg2.output.trans (hg1.output.trans hbutA.output), by omega, fun b hb hn => kk b hb (by simp at hn; exact hn.2.2)⟩
      have Hkk := hide kk
      have Hjfv := hide jfv
      clear kk jfv hz12 ho12 hlb hh0 hh1 hA' hbutA hAa hRa hg1 hR1 hA1 hg2 hb2 hv2 hfa2 hcor hrc hHc hHL hH01
      have hfa2 := hA2.faulty
      go_wp2_with fail
      go_loopw [63] (fun x wr => ∃ i : Nat, i ≤ fs.length ∧ x = .int .i64 i ∧ But [v1, v2, v3] w2 wr ∧ wr.heap[v1]? = some (.cells (vals (putN L fs (g1 f0) i)) 25 (0, 0)) ∧ wr.heap[v2]? = some (.cells (vals (putN (List.replicate N 0) fs (fun _ => wv) i)) 25 (0, 0)) ∧ wr.heap[v3]? = some (.cells (vals (putN (List.replicate N 0) fs (fun _ => wv + 2) i)) 25 (0, 0))) (fun x _ => fs.length - (intOf x).toNat)
      case atStart => exact ⟨0, Nat.zero_le _, rfl, But.refl _ _, jv1, jv2, hv3⟩
      case round =>
        rename World => wq
        obtain ⟨i, hi, rfl, hbut3, q1, q2, q3⟩ := hrel
        have l1 := putN_length L fs (g1 f0) i
        have l2 := putN_length (List.replicate N 0) fs (fun _ => wv) i
        have l3 := putN_length (List.replicate N 0) fs (fun _ => wv + 2) i
        rw [List.length_replicate] at l2 l3
        rw [hL] at l1
        by_cases hlt : i < fs.length
        · have hne : fs ≠ [] := by rintro rfl; simp at hlt
          obtain ⟨d1, d2, d3⟩ := Hjfv.out hne
          have hix := jrf.index hlt cF
          have hci := (jrf.kept (hbut3.block gf (jrf.lt hne) (by simp; exact ⟨d1, d2, d3⟩))).cell hlt
          have hpN := hHf.out i hlt
          have HP1 : Hid (putN L fs (g1 f0) (i + 1) = (putN L fs (g1 f0) i).set (fs.getD i 0) (g1 f0 i)) := hide rfl
          have HP2 : Hid (putN (List.replicate N 0) fs (fun _ => wv) (i + 1) = (putN (List.replicate N 0) fs (fun _ => wv) i).set (fs.getD i 0) wv) := hide rfl
          have HP3 : Hid (putN (List.replicate N 0) fs (fun _ => wv + 2) (i + 1) = (putN (List.replicate N 0) fs (fun _ => wv + 2) i).set (fs.getD i 0) (wv + 2)) := hide rfl
          generalize hp : fs.getD i 0 = p at hci hpN HP1 HP2 HP3
          clear hp
          generalize e1 : putN L fs (g1 f0) i = L1 at q1 l1 HP1
          generalize e2 : putN (List.replicate N 0) fs (fun _ => wv) i = L2 at q2 l2 HP2
          generalize e3 : putN (List.replicate N 0) fs (fun _ => wv + 2) i = L3 at q3 l3 HP3
          clear e1 e2 e3
          have A1 : wq.cell? ⟨b1, 0, none⟩ = some (.slice (some ⟨v1, 0, none⟩) N N) := cell_blk ((hbut3.block b1 (by omega) (by simp; omega)).trans jb1) rfl
          have B1 : wq.cell? ⟨v1, p, none⟩ = some (.int .u8 (L1.getD p 0)) := cell_blk q1 (vals_at (by omega))
          have C1 : wq.frozen? ⟨v1, p, none⟩ = false := free_blk q1
          have S0 : St w2 wq v1 v2 v3 L1 L2 L3 := ⟨hbut3, q1, q2, q3⟩
          have e21 : v2 ≠ v1 := by omega
          have e31 : v3 ≠ v1 := by omega
          have e32 : v3 ≠ v2 := by omega
          clear hbut3 q1 q2 q3
          by_cases hz : i < f0
          · have hg : g1 f0 i = 0 := by unfold g1; rw [if_pos hz]
            rw [hg] at HP1
            clear hg
            go_wp2_with fail
            have S1 := (S0.set1 e21 e31 p 1).set1 e21 e31 p 0
            rw [List.set_set] at S1
            generalize (wq.setCell { block := v1, off := p } (Value.int IntKind.u8 1)).setCell { block := v1, off := p } (Value.int IntKind.u8 0) = wx at S1 ⊢
            clear A1 B1 C1 S0
            have A2 : wx.cell? ⟨b2, 0, none⟩ = some (.slice (some ⟨v2, 0, none⟩) N N) := cell_blk ((S1.but.block b2 (by omega) (by simp; omega)).trans jb2) rfl
            have A4 : wx.cell? ⟨ba, 5, none⟩ = some (.int .u8 wv) := (hA2.kept (S1.but.block ba hA2.lt (by simp; omega))).wv
            have B2 : wx.cell? ⟨v2, p, none⟩ = some (.int .u8 (L2.getD p 0)) := cell_blk S1.q2 (vals_at (by omega))
            have C2 : wx.frozen? ⟨v2, p, none⟩ = false := free_blk S1.q2
            go_region
            have S2 := (S1.set2 e21.symm e32 p wv).drew
            generalize (wx.setCell { block := v2, off := p } (Value.int IntKind.u8 wv)).drew = wy at S2 ⊢
            clear A2 A4 B2 C2 S1
            have A3 : wy.cell? ⟨b3, 0, none⟩ = some (.slice (some ⟨v3, 0, none⟩) N N) := cell_blk ((S2.but.block b3 (by omega) (by simp; omega)).trans hb3) rfl
            have A4 : wy.cell? ⟨ba, 5, none⟩ = some (.int .u8 wv) := (hA2.kept (S2.but.block ba hA2.lt (by simp; omega))).wv
            have B3 : wy.cell? ⟨v3, p, none⟩ = some (.int .u8 (L3.getD p 0)) := cell_blk S2.q3 (vals_at (by omega))
            have C3 : wy.frozen? ⟨v3, p, none⟩ = false := free_blk S2.q3
            go_wp2_with fail
            go_region
            have S3 := (S2.set3 e31.symm e32.symm p (wv + 2)).drew
            generalize (wy.setCell { block := v3, off := p } (Value.int IntKind.u8 (wv + 2))).drew = wz at S3 ⊢
            clear A3 A4 B3 C3 S2
            go_wp2
            go_roundw
            case rel => exact ⟨i + 1, by omega, by go_num, S3.but, by rw [HP1.out]; exact S3.q1, by rw [HP2.out]; exact S3.q2, by rw [HP3.out]; exact S3.q3⟩
            case measure => simp [intOf]; omega
          · have hg : g1 f0 i = 1 := by unfold g1; rw [if_neg hz]
            rw [hg] at HP1
            clear hg
            go_wp2_with fail
            have S1 := S0.set1 e21 e31 p 1
            generalize wq.setCell { block := v1, off := p } (Value.int IntKind.u8 1) = wx at S1 ⊢
            clear A1 B1 C1 S0
            have A2 : wx.cell? ⟨b2, 0, none⟩ = some (.slice (some ⟨v2, 0, none⟩) N N) := cell_blk ((S1.but.block b2 (by omega) (by simp; omega)).trans jb2) rfl
            have A4 : wx.cell? ⟨ba, 5, none⟩ = some (.int .u8 wv) := (hA2.kept (S1.but.block ba hA2.lt (by simp; omega))).wv
            have B2 : wx.cell? ⟨v2, p, none⟩ = some (.int .u8 (L2.getD p 0)) := cell_blk S1.q2 (vals_at (by omega))
            have C2 : wx.frozen? ⟨v2, p, none⟩ = false := free_blk S1.q2
            go_region
            have S2 := (S1.set2 e21.symm e32 p wv).drew
            generalize (wx.setCell { block := v2, off := p } (Value.int IntKind.u8 wv)).drew = wy at S2 ⊢
            clear A2 A4 B2 C2 S1
            have A3 : wy.cell? ⟨b3, 0, none⟩ = some (.slice (some ⟨v3, 0, none⟩) N N) := cell_blk ((S2.but.block b3 (by omega) (by simp; omega)).trans hb3) rfl
            have A4 : wy.cell? ⟨ba, 5, none⟩ = some (.int .u8 wv) := (hA2.kept (S2.but.block ba hA2.lt (by simp; omega))).wv
            have B3 : wy.cell? ⟨v3, p, none⟩ = some (.int .u8 (L3.getD p 0)) := cell_blk S2.q3 (vals_at (by omega))
            have C3 : wy.frozen? ⟨v3, p, none⟩ = false := free_blk S2.q3
            go_wp2_with fail
            go_region
            have S3 := (S2.set3 e31.symm e32.symm p (wv + 2)).drew
            generalize (wy.setCell { block := v3, off := p } (Value.int IntKind.u8 (wv + 2))).drew = wz at S3 ⊢
            clear A3 A4 B3 C3 S2
            go_wp2
            go_roundw
            case rel => exact ⟨i + 1, by omega, by go_num, S3.but, by rw [HP1.out]; exact S3.q1, by rw [HP2.out]; exact S3.q2, by rw [HP3.out]; exact S3.q3⟩
            case measure => simp [intOf]; omega
        · obtain rfl : i = fs.length := by omega
          have A1 : wq.cell? ⟨b1, 1, none⟩ = some (.bool false) := cell_blk ((hbut3.block b1 (by omega) (by simp; omega)).trans jb1) rfl
          have C1 : wq.frozen? ⟨b1, 1, none⟩ = false := free_blk ((hbut3.block b1 (by omega) (by simp; omega)).trans jb1)
          go_wp2
          go_ret
          have j1 := set_blk (i := 1) (v := .bool true) ((hbut3.block b1 (by omega) (by simp; omega)).trans jb1)
          refine ⟨rfl, (hbut2.after hbut3 (by intro b hb hm; simp at hm ⊢; omega)).setCell (Or.inl (by simp)) _, j1, ?_, b2, v2, .slice (some ⟨r2, 0, none⟩) N N, b3, v3, .slice (some ⟨r3, 0, none⟩) N N, ?_, ?_, ?_, ?_, hR2.kept ?_⟩
          · rw [Below.heap_setCell _ _ _ _ ebv.symm]; exact q1
          · rw [Below.heap_setCell _ _ _ _ (by show b2 ≠ b1; omega)]; exact (hbut3.block b2 (by omega) (by simp; omega)).trans jb2
          · rw [Below.heap_setCell _ _ _ _ (by show v2 ≠ b1; omega)]; exact q2
          · rw [Below.heap_setCell _ _ _ _ (by show b3 ≠ b1; omega)]; exact (hbut3.block b3 (by omega) (by simp; omega)).trans hb3
          · rw [Below.heap_setCell _ _ _ _ (by show v3 ≠ b1; omega)]; exact q3
          · rw [Below.heap_setCell _ _ _ _ (by show bm ≠ b1; omega)]; exact hbut3.block bm (by omega) (by simp; omega)
end Plan
end Go.Proofs.Ybulkafje
