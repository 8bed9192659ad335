/-
  THE WALK OF 'zzs1567ctable': a table of one to three columns whose key column has the type asked for.
-/
import Derived.Test.YbulkafkuFmtRows
import Derived.WalkKit
import Derived.WalkSpells
import Derived.WalkLawsBesides
import Derived.Deep.CutBlock
import Derived.Deep.MidRow
import Derived.Laws.CopyRow
import Derived.Laws.CopyOwn
namespace Go.Proofs.YbulkafkuFmt
open Go.RowKit

theorem hide {p : Prop} (h : p) : Hid p := h
theorem cell_blk {w : World} {b i : Nat} {cs : Array Value} {t : TypeId} {fz : Nat × Nat} {v : Value} (h : w.heap[b]? = some (.cells cs t fz)) (hv : cs[i]? = some v) : w.cell? ⟨b, i, none⟩ = some v := by
  simp [World.cell?, h, hv]

def col (s : ByteArray) (ty : Int) (p : Bool) : Array Value := #[.string s, .int .i64 ty, .bool p]
theorem info26 : (Ybaf.prog.info? 26).map (fun i => (i.zero, i.size, i.bytes)) = some (some (.agg (col ⟨#[]⟩ 0 false)), 3, 32) := by kernel_rfl
theorem size26 : (Ybaf.prog.info? 26).map (·.size) = some 3 := by kernel_rfl

theorem run_make_cols (n : Nat) (h : n ≤ 3) (w : World) : ∃ cs : Array Value, cs.size = 3 * n ∧ (Instr.makeSlice 23 (.int .i64 n) (.int .i64 n)).run Ybaf.prog w = .ok (.slice (some ⟨w.heap.size, 0, none⟩) n n) (w.alloc (.cells cs 26)) := by
  obtain ⟨i0, hi, hz0, hz1, hz2⟩ := info_parts info26
  have := run_make (P := Ybaf.prog) w 23 26 i0 _ Ybaf.underlying23 hi hz0 .i64 .i64 n n (by omega) (by omega) (by rw [hz2]; omega) (by omega)
  refine ⟨_, ?_, this⟩
  rw [hz1]
  simp [madeCells]
  omega

theorem free_blk {w : World} {b i : Nat} {cs : Array Value} {t : TypeId} (h : w.heap[b]? = some (.cells cs t (0, 0))) : w.frozen? ⟨b, i, none⟩ = false := by
  simp [World.frozen?, h]
theorem set_blk {w : World} {b i : Nat} {cs : Array Value} {t : TypeId} {fz : Nat × Nat} {v : Value} (h : w.heap[b]? = some (.cells cs t fz)) : (w.setCell ⟨b, i, none⟩ v).heap[b]? = some (.cells (cs.setIfInBounds i v) t fz) := by
  have hlt := lt_of_block h
  have h' : w.heap[b] = .cells cs t fz := by simpa [Array.getElem?_eq_getElem hlt] using h
  show (w.heap.modify b _)[b]? = _
  rw [Array.getElem?_eq_getElem (by simpa using hlt), Array.getElem_modify_self, h']
  rfl

/-- Three cells of block g written: the block behind it; below B nothing has turned. -/
theorem store_col (w w0 : World) (B g o : Nat) (cs : Array Value) (s : ByteArray) (ty : Int) (p : Bool) (hg : w.heap[g]? = some (.cells cs 26 (0, 0))) (ho : o + 3 ≤ cs.size) (hb : Below B w0 w) (hB : B ≤ g) :
    ∃ cs' : Array Value, cs'.size = cs.size ∧ cs'[o + 1]? = some (.int .i64 ty) ∧
      (((w.setCell ⟨g, o, none⟩ (.string s)).setCell ⟨g, o + 1, none⟩ (.int .i64 ty)).setCell ⟨g, o + 2, none⟩ (.bool p)).heap[g]? = some (.cells cs' 26 (0, 0)) ∧
      Below B w0 (((w.setCell ⟨g, o, none⟩ (.string s)).setCell ⟨g, o + 1, none⟩ (.int .i64 ty)).setCell ⟨g, o + 2, none⟩ (.bool p)) := by
  refine ⟨_, ?_, ?_, set_blk (set_blk (set_blk hg)), ((hb.setCell hB _).setCell hB _).setCell hB _⟩
  · simp
  · rw [Array.getElem?_setIfInBounds_ne (by omega), Array.getElem?_setIfInBounds_self_of_lt (by simp; omega)]

/-- A table: its columns lie in block g, n of them; its key column k has type ty. -/
structure TableIs (w : World) (b g n k : Nat) (ty : Int) : Prop where
  cols : w.cell? ⟨b, 2, none⟩ = some (.slice (some ⟨g, 0, none⟩) n n)
  key : w.cell? ⟨b, 3, none⟩ = some (.int .i64 k)
  type : w.cell? ⟨g, 3 * k + 1, none⟩ = some (.int .i64 ty)
  inn : k < n
  small : n ≤ 3

theorem table_built {w3 w0 : World} {B b g n k : Nat} {cs' : Array Value} {ty : Int} (hbs : w3.heap.size = b) (hg : w3.heap[g]? = some (.cells cs' 26 (0, 0))) (hty : cs'[k * 3 + 1]? = some (.int .i64 ty)) (hk : k < n) (hn : n ≤ 3) (hb : Below B w0 w3) (hB : B ≤ g) :
    TableIs (w3.alloc (.cells #[.pointer none, .string ⟨#[116]⟩, .slice (some ⟨g, 0, none⟩) n n, .int .i64 k, .pointer none, .slice none 0 0] 51)) b g n k ty ∧
      Below B w0 (w3.alloc (.cells #[.pointer none, .string ⟨#[116]⟩, .slice (some ⟨g, 0, none⟩) n n, .int .i64 k, .pointer none, .slice none 0 0] 51)) := by
  subst hbs
  have hlt := lt_of_block hg
  have hnew := heap_alloc_new w3 (.cells #[.pointer none, .string ⟨#[116]⟩, .slice (some ⟨g, 0, none⟩) n n, .int .i64 k, .pointer none, .slice none 0 0] 51)
  have hga := World.grownBy_alloc w3 (.cells #[.pointer none, .string ⟨#[116]⟩, .slice (some ⟨g, 0, none⟩) n n, .int .i64 k, .pointer none, .slice none 0 0] 51) none
  have hg' := (hga.block _ hlt (by simp)).trans hg
  exact ⟨⟨cell_blk hnew rfl, cell_blk hnew rfl, cell_blk hg' (by rw [Nat.mul_comm]; exact hty), hk, hn⟩, hb.alloc (by omega) _⟩

set_option maxRecDepth 100000 in
set_option maxHeartbeats 1000000 in
theorem table_any (isText : Bool) (a : Int) (w : World) (ha : 0 ≤ a) (ha2 : a ≤ 255) :
    Calls Ybaf.prog 9 #[.bool isText, .int .u8 a] w fun e w' => ∃ b g n k, e = .returned (.pointer (some ⟨b, 0, none⟩)) ∧ TableIs w' b g n k (if isText then 2 else 1) ∧ Below w.heap.size w w' := by
  obtain ⟨n, hn⟩ : ∃ n : Nat, 1 + a % 3 = n := ⟨(1 + a % 3).toNat, by omega⟩
  have hn3 : n ≤ 3 := by omega
  have hn1 : 1 ≤ n := by omega
  obtain ⟨k, hk⟩ : ∃ k : Nat, a / 3 % n = k := ⟨(a / 3 % n).toNat, by have := Int.emod_nonneg (a / 3) (show (n : Int) ≠ 0 by omega); omega⟩
  have hkn : k < n := by have := Int.emod_lt_of_pos (a / 3) (show (0 : Int) < n by omega); omega
  obtain ⟨cs, hcs, hmk⟩ := run_make_cols n hn3 w
  cases isText
  · go_enter Ybaf.func9, Ybaf.ntmps9
    go_wp2_with fail
    rw [hk]
    have hb0 : Below w.heap.size w (w.alloc (Obj.cells cs 26)) := (Below.refl _ _).alloc (Nat.le_refl _) _
    have hg0 := heap_alloc_new w (Obj.cells cs 26)
    obtain ⟨g, hg⟩ : ∃ g, g = w.heap.size := ⟨_, rfl⟩
    rw [← hg] at hg0 ⊢
    have HG := hide hg
    generalize w.alloc (Obj.cells cs 26) = w1 at hb0 hg0 ⊢
    have HMK := hide hmk
    clear hmk hg
    go_loopw [10] (fun y wr => ∃ (i : Nat) (cs : Array Value), i ≤ n ∧ y = .int .i64 i ∧ wr.heap[g]? = some (.cells cs 26 (0, 0)) ∧ cs.size = 3 * n ∧ Below w.heap.size w wr) (fun y _ => n - (intOf y).toNat)
    case atStart => exact ⟨0, cs, Nat.zero_le _, rfl, hg0, hcs, hb0⟩
    case round =>
      obtain ⟨i, cs1, hi, rfl, hg1, hc1, hb1⟩ := hrel
      by_cases hlt : i < n
      · obtain ⟨cs2, hs2, _, hg2, hb2⟩ := store_col wr w w.heap.size g (i * 3) cs1 ⟨#[99]⟩ 2 false hg1 (by omega) hb1 (Nat.le_of_eq HG.out.symm)
        have c0 : wr.cell? ⟨g, i * 3, none⟩ = some cs1[i * 3] := cell_blk hg1 (by simp)
        have c1 : wr.cell? ⟨g, i * 3 + 1, none⟩ = some cs1[i * 3 + 1] := cell_blk hg1 (by simp)
        have c2 : wr.cell? ⟨g, i * 3 + 2, none⟩ = some cs1[i * 3 + 2] := cell_blk hg1 (by simp)
        have f0 : wr.frozen? ⟨g, i * 3, none⟩ = false := free_blk hg1
        have f1 : wr.frozen? ⟨g, i * 3 + 1, none⟩ = false := free_blk hg1
        have f2 : wr.frozen? ⟨g, i * 3 + 2, none⟩ = false := free_blk hg1
        have HG2 := hide hg2
        clear hg1 hg2
        go_wp2_with fail
        go_roundw
        case rel => exact ⟨i + 1, cs2, by omega, by go_num, HG2.out, by omega, hb2⟩
        case measure => simp [intOf]; omega
      · obtain rfl : i = n := by omega
        obtain ⟨cs2, hs2, hty, hg2, hb2⟩ := store_col wr w w.heap.size g (k * 3) cs1 ⟨#[105, 100]⟩ 1 true hg1 (by omega) hb1 (Nat.le_of_eq HG.out.symm)
        have c0 : wr.cell? ⟨g, k * 3, none⟩ = some cs1[k * 3] := cell_blk hg1 (by simp)
        have c1 : wr.cell? ⟨g, k * 3 + 1, none⟩ = some cs1[k * 3 + 1] := cell_blk hg1 (by simp)
        have c2 : wr.cell? ⟨g, k * 3 + 2, none⟩ = some cs1[k * 3 + 2] := cell_blk hg1 (by simp)
        have f0 : wr.frozen? ⟨g, k * 3, none⟩ = false := free_blk hg1
        have f1 : wr.frozen? ⟨g, k * 3 + 1, none⟩ = false := free_blk hg1
        have f2 : wr.frozen? ⟨g, k * 3 + 2, none⟩ = false := free_blk hg1
        have HG2 := hide hg2
        have HTY := hide hty
        clear hg1 hg2 hty
        have R := table_built (b := wr.heap.size) (by simp) HG2.out HTY.out hkn hn3 hb2 (Nat.le_of_eq HG.out.symm)
        have HR := hide R
        clear R hb2 HMK
        go_wp2_with fail
        go_ret
        exact ⟨_, rfl, ⟨_, _, _, HR.out.1⟩, HR.out.2⟩
  · go_enter Ybaf.func9, Ybaf.ntmps9
    go_wp2_with fail
    rw [hk]
    have hb0 : Below w.heap.size w (w.alloc (Obj.cells cs 26)) := (Below.refl _ _).alloc (Nat.le_refl _) _
    have hg0 := heap_alloc_new w (Obj.cells cs 26)
    obtain ⟨g, hg⟩ : ∃ g, g = w.heap.size := ⟨_, rfl⟩
    rw [← hg] at hg0 ⊢
    have HG := hide hg
    generalize w.alloc (Obj.cells cs 26) = w1 at hb0 hg0 ⊢
    have HMK := hide hmk
    clear hmk hg
    go_loopw [10] (fun y wr => ∃ (i : Nat) (cs : Array Value), i ≤ n ∧ y = .int .i64 i ∧ wr.heap[g]? = some (.cells cs 26 (0, 0)) ∧ cs.size = 3 * n ∧ Below w.heap.size w wr) (fun y _ => n - (intOf y).toNat)
    case atStart => exact ⟨0, cs, Nat.zero_le _, rfl, hg0, hcs, hb0⟩
    case round =>
      obtain ⟨i, cs1, hi, rfl, hg1, hc1, hb1⟩ := hrel
      by_cases hlt : i < n
      · obtain ⟨cs2, hs2, _, hg2, hb2⟩ := store_col wr w w.heap.size g (i * 3) cs1 ⟨#[99]⟩ 1 false hg1 (by omega) hb1 (Nat.le_of_eq HG.out.symm)
        have c0 : wr.cell? ⟨g, i * 3, none⟩ = some cs1[i * 3] := cell_blk hg1 (by simp)
        have c1 : wr.cell? ⟨g, i * 3 + 1, none⟩ = some cs1[i * 3 + 1] := cell_blk hg1 (by simp)
        have c2 : wr.cell? ⟨g, i * 3 + 2, none⟩ = some cs1[i * 3 + 2] := cell_blk hg1 (by simp)
        have f0 : wr.frozen? ⟨g, i * 3, none⟩ = false := free_blk hg1
        have f1 : wr.frozen? ⟨g, i * 3 + 1, none⟩ = false := free_blk hg1
        have f2 : wr.frozen? ⟨g, i * 3 + 2, none⟩ = false := free_blk hg1
        have HG2 := hide hg2
        clear hg1 hg2
        go_wp2_with fail
        go_roundw
        case rel => exact ⟨i + 1, cs2, by omega, by go_num, HG2.out, by omega, hb2⟩
        case measure => simp [intOf]; omega
      · obtain rfl : i = n := by omega
        obtain ⟨cs2, hs2, hty, hg2, hb2⟩ := store_col wr w w.heap.size g (k * 3) cs1 ⟨#[105, 100]⟩ 2 true hg1 (by omega) hb1 (Nat.le_of_eq HG.out.symm)
        have c0 : wr.cell? ⟨g, k * 3, none⟩ = some cs1[k * 3] := cell_blk hg1 (by simp)
        have c1 : wr.cell? ⟨g, k * 3 + 1, none⟩ = some cs1[k * 3 + 1] := cell_blk hg1 (by simp)
        have c2 : wr.cell? ⟨g, k * 3 + 2, none⟩ = some cs1[k * 3 + 2] := cell_blk hg1 (by simp)
        have f0 : wr.frozen? ⟨g, k * 3, none⟩ = false := free_blk hg1
        have f1 : wr.frozen? ⟨g, k * 3 + 1, none⟩ = false := free_blk hg1
        have f2 : wr.frozen? ⟨g, k * 3 + 2, none⟩ = false := free_blk hg1
        have HG2 := hide hg2
        have HTY := hide hty
        clear hg1 hg2 hty
        have R := table_built (b := wr.heap.size) (by simp) HG2.out HTY.out hkn hn3 hb2 (Nat.le_of_eq HG.out.symm)
        have HR := hide R
        clear R hb2 HMK
        go_wp2_with fail
        go_ret
        exact ⟨_, rfl, ⟨_, _, _, HR.out.1⟩, HR.out.2⟩
end Go.Proofs.YbulkafkuFmt
