/-
  THE WALK OF 'LawS1567CDecode'.
-/
import Derived.Test.YbulkafkuFmtInt
namespace Go.Proofs.YbulkafkuFmt
open Go.RowKit Go.Extern.Stop Go.Stop Go.Extern

theorem index_key (a : Addr) (n c i : Nat) (hi : i < n) (w' : World) :
    (Instr.indexAt 56 (.slice (some a) n c) (.int .i64 i)).run Ybaf.prog w' = .ok (.pointer (some (a.add i))) w' := by
  have he : Ybaf.prog.underlying 56 = some (.slice (Ybaf.prog.elem 56)) := by kernel_rfl
  have hs : ∀ w' : World, (sizeOf (Ybaf.prog.elem 56)).run Ybaf.prog w' = .ok 1 w' := fun w' => by kernel_rfl
  rw [run_indexAt_slice _ _ _ _ _ _ _ he, if_pos (by omega), hs]
  simp [Result.andThen]

/-! ### eight bytes, the greatest first -/
theorem beFrom_snoc : ∀ (l : List Int) (acc z : Int), Lib.beFromZ acc (l ++ [z]) = Lib.beFromZ acc l * 256 + z
  | [], _, _ => rfl
  | y :: r, acc, z => beFrom_snoc r (acc * 256 + y) z
theorem be_bound : ∀ (n : Nat) (l : List Int), l.length = n → (∀ z ∈ l, 0 ≤ z ∧ z ≤ 255) → ∀ acc : Int, 0 ≤ acc → 0 ≤ Lib.beFromZ acc l ∧ Lib.beFromZ acc l < (acc + 1) * 256 ^ n
  | 0, [], _, _, acc, ha => ⟨ha, by simp [Lib.beFromZ]; omega⟩
  | n + 1, z :: r, h, hw, acc, ha => by
    have hz := hw z (by simp)
    have := be_bound n r (by simpa using h) (fun y hy => hw y (by simp [hy])) (acc * 256 + z) (by omega)
    refine ⟨this.1, Int.lt_of_lt_of_le this.2 ?_⟩
    rw [Int.pow_succ, Int.mul_comm (256 ^ n) 256, ← Int.mul_assoc]
    exact Int.mul_le_mul_of_nonneg_right (by omega) (Int.pow_nonneg (by omega))
theorem be_step (zs : List Int) (i : Nat) (hl : zs.length = 8) (hi : i < zs.length) (hw : ∀ z ∈ zs, (Lit.int .u8 z).wf = true) :
    bits BinOp.or IntKind.u64 (IntKind.u64.wrap (Lib.beZ (zs.take i) * 256)) (IntKind.u64.wrap zs[i]) = Lib.beZ (zs.take (i + 1)) := by
  have hb : ∀ z ∈ zs, 0 ≤ z ∧ z ≤ 255 := fun z hz => Lib.byte_of_wf (hw z hz)
  have hz := hb zs[i] (List.getElem_mem hi)
  have h1 := be_bound i (zs.take i) (by rw [List.length_take]; omega) (fun z hz => hb z (List.mem_of_mem_take hz)) 0 (by omega)
  have h2 : (256 : Int) ^ i ≤ 256 ^ 7 := by
    have : i = 0 ∨ i = 1 ∨ i = 2 ∨ i = 3 ∨ i = 4 ∨ i = 5 ∨ i = 6 ∨ i = 7 := by omega
    rcases this with rfl | rfl | rfl | rfl | rfl | rfl | rfl | rfl <;> decide
  have e : zs.take (i + 1) = zs.take i ++ [zs[i]] := by rw [List.take_add_one, List.getElem?_eq_getElem hi]; rfl
  have h3 : Lib.beZ (zs.take (i + 1)) = Lib.beZ (zs.take i) * 256 + zs[i] := by rw [e]; exact beFrom_snoc _ _ _
  rw [h3]
  have h4 : (0 : Int) ≤ Lib.beZ (zs.take i) := h1.1
  have h5 : Lib.beZ (zs.take i) < 72057594037927936 := Int.lt_of_lt_of_le h1.2 (by omega)
  generalize Lib.beZ (zs.take i) = u at h4 h5 ⊢
  rw [wraps_u64 _ (by omega) (by omega), wraps_u64 _ (by omega) (by omega)]
  exact bits_join .u64 64 (by decide) wraps_u64 8 (u * 256) zs[i] (by omega) (by omega) (by omega) (by omega) (by omega) (by omega)

theorem below_drew {B : Nat} {w0 w : World} (h : Below B w0 w) : Below B w0 w.drew := ⟨h.os, h.tape, h.output, h.size, h.block⟩

theorem below_on {B : Nat} {w0 w1 w2 : World} (h : Below B w0 w1) (k : Below w1.heap.size w1 w2) (hB : B ≤ w1.heap.size) : Below B w0 w2 :=
  h.trans ⟨k.os, k.tape, k.output, k.size, fun j hj => k.block j (by omega)⟩

set_option maxRecDepth 100000 in
theorem law_big (isText : Bool) (a : Int) (ao : Option Addr) (l c : Nat) (w : World) (hb : 1024 < l) :
    Calls Ybaf.prog 4 #[.bool isText, .int .u8 a, .slice ao l c] w fun e w' => e = .returned (.bool true) ∧ Below w.heap.size w w' := by
  go_enter Ybaf.func4, Ybaf.ntmps4
  go_wp2
  go_ret
  exact ⟨rfl, Below.refl _ _⟩

set_option maxRecDepth 100000 in
set_option maxHeartbeats 1000000 in
theorem law_text (a : Int) (ao : Option Addr) (l c : Nat) (s : ByteArray) (w : World) (ha : 0 ≤ a) (ha2 : a ≤ 255) (hl : l ≤ 1024)
    (hcv : ∀ w' : World, Below w.heap.size w w' → (convert 56 9 (.slice ao l c)).run Ybaf.prog w' = .ok (.string s) w') :
    Calls Ybaf.prog 4 #[.bool true, .int .u8 a, .slice ao l c] w fun e w' => e = .returned (.bool true) ∧ Below w.heap.size w w' := by
  have HCV := hide hcv
  have hta := is_text
  clear hcv
  go_enter Ybaf.func4, Ybaf.ntmps4
  go_wp2_with fail
  refine (table_any true a w ha ha2).mono ?_
  rintro e w1 ⟨b, g, n, k, rfl, ht, hb1⟩
  go_wp2_with fail
  refine (decode_text b g n k ao l c s w1 ht (HCV.out _ (below_drew hb1))).mono ?_
  rintro e w2 ⟨rfl, hw2⟩
  have hb2 : Below w.heap.size w w2 := by rw [hw2]; exact below_drew hb1
  have hcv2 := HCV.out w2 hb2
  clear hw2
  go_wp2
  go_ret
  exact ⟨rfl, hb2⟩

set_option maxRecDepth 100000 in
set_option maxHeartbeats 1000000 in
theorem law_bad (F : Interp) (x : Int) (ao : Option Addr) (l c : Nat) (a : Addr) (s : ByteArray) (w : World) (hF : F.answers w.tape) (ha : 0 ≤ x) (ha2 : x ≤ 255) (hl : l ≤ 1024) (hl8 : l ≠ 8)
    (hg : w.cell? ⟨1, 0, none⟩ = some (.iface 99 (.pointer (some a)))) (hs : w.cell? a = some (.string s)) :
    Calls Ybaf.prog 4 #[.bool false, .int .u8 x, .slice ao l c] w fun e w' => e = .returned (.bool true) ∧ Below w.heap.size w w' := by
  have hta := is_int
  have hne : ((l : Int) == 8) = false := by rw [beq_eq_false_iff_ne]; omega
  have hlg := World.block_lt_of_cell? _ _ hg
  have hls := World.block_lt_of_cell? _ _ hs
  go_enter Ybaf.func4, Ybaf.ntmps4
  go_wp2_with fail
  refine (table_any false x w ha ha2).mono ?_
  rintro e w1 ⟨b, g, n, k, rfl, ht, hb1⟩
  have hF1 : F.answers w1.drew.tape := by
    show F.answers w1.tape
    rw [hb1.tape]
    exact hF
  have hg1 : w1.drew.cell? ⟨1, 0, none⟩ = some (.iface 99 (.pointer (some a))) := (hb1.cell hlg).trans hg
  have hs1 : w1.drew.cell? a = some (.string s) := (hb1.cell hls).trans hs
  have hbad := decode_bad F ao l c a s w1.drew hF1 hl8 hl hg1 hs1
  clear hg1 hs1
  go_wp2_with fail
  refine (decode_int (fun x y w' => ∃ pb, x = .int .i64 0 ∧ y = .iface 97 (.pointer (some ⟨pb, 0, none⟩)) ∧ w'.cell? ⟨pb, 1, none⟩ = some (.iface 99 (.pointer (some a))) ∧ Below w.heap.size w w') b g n k ao l c w1 ht (hbad.mono ?_)).mono ?_
  · rintro e w2 ⟨pb, rfl, h1, h2⟩
    exact ⟨0, _, rfl, pb, rfl, rfl, h1, below_on (below_drew hb1) h2 hb1.size⟩
  rintro e w2 ⟨x0, y, rfl, pb, hx, rfl, hp, hb2⟩
  injection hx with _ hx
  subst hx
  have hg2 : w2.cell? ⟨1, 0, none⟩ = some (.iface 99 (.pointer (some a))) := (hb2.cell hlg).trans hg
  have HIS := hide (is_wrap_same pb 0 a w2 hp)
  clear hbad
  go_wp2_with (go_at_call 8; refine HIS.out.mono ?_; rintro e w3 ⟨rfl, hw3⟩; subst hw3)
  go_ret
  exact ⟨rfl, hb2⟩

set_option maxRecDepth 100000 in
set_option maxHeartbeats 1000000 in
theorem law_good (x : Int) (c : Nat) (a : Addr) (zs : List Int) (w : World) (ha : 0 ≤ x) (ha2 : x ≤ 255) (hl : zs.length = 8)
    (hcell : ∀ i, i < zs.length → w.cell? (a.add i) = some (.int .u8 (zs.getD i 0))) (hw : ∀ z ∈ zs, (Lit.int .u8 z).wf = true) :
    Calls Ybaf.prog 4 #[.bool false, .int .u8 x, .slice (some a) 8 c] w fun e w' => e = .returned (.bool true) ∧ Below w.heap.size w w' := by
  have hta := is_int
  have HI := hide (fun i (hi : i < 8) w' => index_key a 8 c i hi w')
  have HC := hide hcell
  have HW := hide hw
  go_enter Ybaf.func4, Ybaf.ntmps4
  go_wp2_with fail
  refine (table_any false x w ha ha2).mono ?_
  rintro e w1 ⟨b, g, n, k, rfl, ht, hb1⟩
  have hgood := decode_good a c zs w1.drew hl (fun i hi => (hb1.cell (World.block_lt_of_cell? _ _ (hcell i hi))).trans (hcell i hi)) hw
  clear hcell hw
  go_wp2_with fail
  refine (decode_int (fun x y w' => x = .int .i64 (keyOf zs) ∧ y = .nilIface ∧ Below w.heap.size w w') b g n k (some a) 8 c w1 ht (hgood.mono ?_)).mono ?_
  · rintro e w2 ⟨rfl, h2⟩
    exact ⟨keyOf zs, _, rfl, rfl, rfl, below_on (below_drew hb1) h2 hb1.size⟩
  rintro e w2 ⟨x0, y, rfl, hx, rfl, hb2⟩
  injection hx with _ hx
  subst hx
  clear hgood
  go_wp2_with fail
  go_loop [14, 15] (fun u y => ∃ i : Nat, i ≤ 8 ∧ y = .int .i64 i ∧ u = .int .u64 (Lib.beZ (zs.take i))) (fun _ y => 8 - (intOf y).toNat)
  case atStart => exact ⟨0, by omega, rfl, rfl⟩
  case round =>
    obtain ⟨i, hi, rfl, rfl⟩ := hrel
    by_cases hlt : i < 8
    · have hix := HI.out i hlt
      have hcw := HC.out i (by omega)
      have hcx : w2.cell? (a.add i) = some (.int .u8 (zs.getD i 0)) := (hb2.cell (World.block_lt_of_cell? _ _ hcw)).trans hcw
      clear hcw
      go_wp2_with fail
      go_round
      case rel => exact ⟨i + 1, by omega, by go_num, by rw [be_step zs i hl (by omega) HW.out]⟩
      case measure => simp [intOf]; omega
    · obtain rfl : i = 8 := by omega
      rw [List.take_of_length_le (by omega)]
      go_wp2
      go_ret
      exact ⟨by simp [keyOf], hb2⟩
end Go.Proofs.YbulkafkuFmt
