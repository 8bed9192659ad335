/-
  THE CONTRACT OF zzs1567brow: a slice as long as what came in; nothing that was there has turned.
-/
import Derived.Test.YbulkafkuAndOr
namespace Go.Proofs.Ybulkafku
open Go.RowKit

theorem info20 : (Yba.prog.info? 20).map (fun i => (i.zero, i.size, i.bytes)) = some (some .nilIface, 1, 16) := by kernel_rfl

/-- An index into a slice whose elements take one cell each. -/
theorem index_arg {t : TypeId} (he : Yba.prog.underlying t = some (.slice (Yba.prog.elem t))) (hs : ∀ w' : World, (sizeOf (Yba.prog.elem t)).run Yba.prog w' = .ok 1 w') (a : Addr) (n c i : Nat) (hi : i < n) (w' : World) :
    (Instr.indexAt t (.slice (some a) n c) (.int .i64 i)).run Yba.prog w' = .ok (.pointer (some (a.add i))) w' := by
  rw [run_indexAt_slice _ _ _ _ _ _ _ he, if_pos (by omega), hs]
  simp [Result.andThen]

set_option maxHeartbeats 1000000 in
theorem brow_nil (w : World) : Calls Yba.prog 5 #[.slice none 0 0] w fun e w' => (∃ ao c, e = .returned (.slice ao 0 c)) ∧ Below w.heap.size w w' := by
  have hnil := fun (wx : World) => Lib.run_eql_slice_nil (P := Yba.prog) wx
  go_enter Yba.func5, Yba.ntmps5
  go_wp2
  go_ret
  exact ⟨⟨none, 0, rfl⟩, Below.refl _ _⟩

theorem one_iface (x : Int) : ∀ u ∈ [Value.iface 2 (.int .i64 x)], u.oneCell' = true := by
  intro u hu
  simp at hu
  subst hu
  rfl

theorem own_slice {w : World} {B e n : Nat} {v : Value} {xs : List Value} (hown : w.ownsRow B e 1 v n xs) : ∃ ao c, v = .slice ao n c := by
  rcases hown.2 with ⟨rfl, rfl⟩ | ⟨g, cap, cur, rfl, _⟩
  · exact ⟨none, 0, rfl⟩
  · exact ⟨_, _, rfl⟩

set_option maxHeartbeats 1000000 in
theorem brow_some (a : Addr) (L c : Nat) (w : World) (hL : L ≤ 1024) (hc : ∀ i, i < L → ∃ z, w.cell? (a.add i) = some (.int .i64 z) ∧ (a.add i).block < w.heap.size) :
    Calls Yba.prog 5 #[.slice (some a) L c] w fun e w' => (∃ ao c, e = .returned (.slice ao L c)) ∧ Below w.heap.size w w' := by
  obtain ⟨i0, hi0, hz0, hz1, hz2⟩ := info_parts info20
  obtain ⟨w1, hmk, hown1, hg1⟩ := run_make_own (P := Yba.prog) w w.heap.size 24 20 i0 .nilIface 1 Yba.underlying24 hi0 hz0 hz1 .i64 .i64 L (by rw [hz2]; omega) (by unfold maxLen; omega) (Nat.le_refl _)
  have HC := hide hc
  clear hc
  have hb1 : Below w.heap.size w w1 := ⟨hg1.os, hg1.tape, hg1.output, hg1.size, fun k hk => hg1.block k hk (by simp)⟩
  have hnil := fun (wx : World) => Lib.run_eql_slice_nil (P := Yba.prog) wx
  go_enter Yba.func5, Yba.ntmps5
  go_wp2_with fail
  go_loopw [3, 4] (fun v y wr => ∃ (k : Nat) (ys : List Value), k ≤ L ∧ y = .int .i64 k ∧ wr.ownsRow w.heap.size 20 1 v k ys ∧ Below w.heap.size w wr) (fun _ y _ => L - (intOf y).toNat)
  case atStart => exact ⟨0, [], Nat.zero_le _, rfl, hown1, hb1⟩
  case round =>
    obtain ⟨k, ys, hk, rfl, hown, hbel⟩ := hrel
    have hsz := hbel.size
    by_cases hlt : k < L
    · obtain ⟨z, hz, hzb⟩ := HC.out k hlt
      have hix := index_arg (t := 23) (by kernel_rfl) (fun w' => by kernel_rfl) a L c k hlt
      have hcell : wr.cell? (a.add k) = some (.int .i64 z) := (hbel.cell hzb).trans hz
      clear hz
      go_wp2_with (at_builtin; refine wpList_append_own _ rfl _ _ 24 rfl w.heap.size 20 i0 .nilIface 1 16 Yba.underlying24 hi0 hz0 hz1 hz2 rfl (by decide) _ _ _ rfl (hown.alloc _) ⟨wr.heap.size, 0, none⟩ 1 1 [.iface 2 (.int .i64 z)] rfl rfl (cell_one_new _ _ _) (one_iface z) (by unfold maxLen; omega) (by omega) (by simp; omega) ?_; intro v' w2 hown' hgrow _)
      go_roundw
      case rel => exact ⟨k + 1, _, by omega, by go_num, hown', (hbel.alloc hsz _).grown hgrow (by simp; omega) (fun j hj => (hown.lt j hj).1)⟩
      case measure => simp [intOf]; omega
    · obtain rfl : k = L := by omega
      obtain ⟨ao, cc, rfl⟩ := own_slice hown
      go_wp2
      go_ret
      exact ⟨⟨ao, cc, rfl⟩, hbel⟩
end Go.Proofs.Ybulkafku
