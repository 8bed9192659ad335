/-
  BLOCKS OF MEMORY, for the walks of the laws over 'writeHead': what a writer's chunks are, what stays behind a write.
-/
import Derived.Test.YbulkafjeFmtShelf
import Derived.WalkKit
import Derived.WalkSpells
import Derived.WalkLawsBesides
import Derived.Laws.CopyOwn
import Derived.Laws.IdiomStrings
import Derived.Lib.AppendIntMem
import Derived.Maps.AppendAt
namespace Go.Proofs.YbulkafjeFmt
open Go.RowKit

theorem hide {p : Prop} (h : p) : Hid p := h

theorem cell_blk {w : World} {b i : Nat} {cs : Array Value} {t : TypeId} {fz : Nat × Nat} {v : Value} (h : w.heap[b]? = some (.cells cs t fz)) (hv : cs[i]? = some v) : w.cell? ⟨b, i, none⟩ = some v := by
  simp [World.cell?, h, hv]
theorem free_blk {w : World} {b i : Nat} {cs : Array Value} {t : TypeId} (h : w.heap[b]? = some (.cells cs t (0, 0))) : w.frozen? ⟨b, i, none⟩ = false := by
  simp [World.frozen?, h]
theorem set_blk {w : World} {b i : Nat} {cs : Array Value} {t : TypeId} {fz : Nat × Nat} {v : Value} (h : w.heap[b]? = some (.cells cs t fz)) : (w.setCell ⟨b, i, none⟩ v).heap[b]? = some (.cells (cs.setIfInBounds i v) t fz) := by
  have hlt := lt_of_block h
  have h' : w.heap[b] = .cells cs t fz := by simpa [Array.getElem?_eq_getElem hlt] using h
  show (w.heap.modify b _)[b]? = _
  rw [Array.getElem?_eq_getElem (by simpa using hlt), Array.getElem_modify_self, h']
  rfl

/-- What was there in w is there in w', but for the writer's struct (type 25) and the rows of its chunks (element type 29); below B nothing has turned. -/
structure Kept (B : Nat) (w w' : World) : Prop where
  below : Below B w w'
  old : ∀ (b : Nat) (cs : Array Value) (t : TypeId) (fz : Nat × Nat), w.heap[b]? = some (.cells cs t fz) → t ≠ 25 → t ≠ 29 → w'.heap[b]? = some (.cells cs t fz)

theorem Kept.refl (B : Nat) (w : World) : Kept B w w := ⟨Below.refl _ _, fun _ _ _ _ h _ _ => h⟩
theorem Kept.trans {B : Nat} {a b c : World} (h : Kept B a b) (k : Kept B b c) : Kept B a c := ⟨h.below.trans k.below, fun x cs t fz hx h1 h2 => k.old x cs t fz (h.old x cs t fz hx h1 h2) h1 h2⟩
/-- New blocks and draws alone. -/
theorem Kept.grown {B : Nat} {a b : World} (h : a.grownBy b none) (hB : B ≤ a.heap.size) : Kept B a b :=
  ⟨⟨h.os, h.tape, h.output, h.size, fun k hk => h.block k (by omega) (by simp)⟩, fun x cs t fz hx _ _ => (h.block x (lt_of_block hx) (by simp)).trans hx⟩

theorem grown_then {w w1 w2 : World} {row : Option Nat} (h1 : w.grownBy w1 none) (h2 : w1.grownBy w2 row) : w.grownBy w2 row :=
  ⟨h2.os.trans h1.os, h2.tape.trans h1.tape, h2.output.trans h1.output, Nat.le_trans h1.size h2.size, fun k hk hr => (h2.block k (Nat.lt_of_lt_of_le hk h1.size) hr).trans (h1.block k hk (by simp))⟩
theorem grown_drew {w w1 : World} {row : Option Nat} (h : w.grownBy w1 row) : w.grownBy w1.drew row := ⟨h.os, h.tape, h.output, h.size, h.block⟩
theorem grown_refl (w : World) (row : Option Nat) : w.grownBy w row := ⟨rfl, rfl, rfl, Nat.le_refl _, fun _ _ _ => rfl⟩
theorem grown_grow (w : World) (k : Nat) (os : Array Obj) : w.grownBy (Sort.grow (w.drewN k) os) none :=
  ⟨rfl, rfl, rfl, by simp [World.drewN], fun b hb _ => Sort.heap_grow_old (w.drewN k) os (k := b) hb⟩

/-! ### bytes -/
def bys (l : List UInt8) : Array Value := (Lib.byteCells l).toArray
theorem bys_at {l : List UInt8} {i : Nat} {b : UInt8} (h : l[i]? = some b) : (bys l)[i]? = some (.int .u8 b.toNat) := by
  simp [bys, Lib.byteCells, h]

/-- The slice '.slice (some ⟨g, 0, none⟩) l.length ..' holds the bytes l. -/
def BytesAt (w : World) (g : Nat) (l : List UInt8) : Prop := ∀ j u, (Lib.byteCells l)[j]? = some u → w.cell? ⟨g, j, none⟩ = some u

/-- '[]byte(s)'. -/
theorem conv_bytes (s : ByteArray) (w : World) : ∃ cap w', (convert 9 29 (.string s)).run Ybaf.prog w = .ok (.slice (some ⟨w.heap.size, 0, none⟩) s.data.toList.length cap) w' ∧ w.grownBy w' none ∧ BytesAt w' w.heap.size s.data.toList ∧ w.heap.size < w'.heap.size := by
  have h := run_bytes_of_string (P := Ybaf.prog) w 9 29 5 s Ybaf.underlying9 Ybaf.underlying29 Ybaf.underlying5
  have hs : s.data.toList.length = s.size := rfl
  rw [hs]
  refine ⟨_, _, h, ?_, ?_, by rw [World.size_alloc]; exact Nat.lt_succ_self _⟩
  · have g := World.grownBy_alloc w.drew (.cells (bytesRow s (grownCap w s.size 0 5)) 5 ((bytesRow s (grownCap w s.size 0 5)).size, (bytesRow s (grownCap w s.size 0 5)).size + 1)) none
    exact ⟨g.os, g.tape, g.output, g.size, g.block⟩
  · intro j u hu
    have hj : j < s.data.toList.length := by
      have := (List.getElem?_eq_some_iff.1 hu).1
      simpa [Lib.byteCells] using this
    refine cell_blk (heap_alloc_new w.drew _) ?_
    unfold bytesRow
    rw [Array.getElem?_append_left (by simpa using hj)]
    simpa [Lib.byteCells] using hu

theorem info5 : (Ybaf.prog.info? 5).map (fun i => (i.zero, i.size, i.bytes)) = some (some (.int .u8 0), 1, 1) := by kernel_rfl
theorem info29 : (Ybaf.prog.info? 29).map (fun i => (i.zero, i.size, i.bytes)) = some (some (.slice none 0 0), 1, 24) := by kernel_rfl
theorem size5 : (Ybaf.prog.info? 5).map (·.size) = some 1 := by kernel_rfl

def zb (n : Nat) : Array Value := madeCells #[.int .u8 0] n

theorem run_make_bytes (n : Nat) (h : n ≤ 4096) (w : World) : (Instr.makeSlice 29 (.int .i64 n) (.int .i64 n)).run Ybaf.prog w = .ok (.slice (some ⟨w.heap.size, 0, none⟩) n n) (w.alloc (.cells (zb n) 5)) := by
  obtain ⟨i0, hi, hz0, hz1, hz2⟩ := info_parts info5
  have := run_make (P := Ybaf.prog) w 29 5 i0 (.int .u8 0) Ybaf.underlying29 hi hz0 .i64 .i64 n n (by omega) (by omega) (by rw [hz2]; omega) (by omega)
  rw [this, hz1]
  simp [Value.cells, zb]

theorem oneCell_bytes (l : List UInt8) : ∀ v ∈ Lib.byteCells l, v.oneCell' = true := by
  intro v hv
  simp [Lib.byteCells] at hv
  obtain ⟨b, _, rfl⟩ := hv
  rfl

/-- 'c := make([]byte, len(p)); copy(c, p)': the copy's run, and what it leaves. -/
theorem copied (l : List UInt8) (gp cp ty : Nat) (w : World) (hp : BytesAt w gp l) (hgp : gp < w.heap.size) :
    ∃ w', (Builtin.copy_ #[29, 29] ty #[.slice (some ⟨w.heap.size, 0, none⟩) l.length l.length, .slice (some ⟨gp, 0, none⟩) l.length cp]).run Ybaf.prog (w.alloc (.cells (zb l.length) 5)) = .ok (.int .i64 l.length) w' ∧
      w.grownBy w' none ∧ w'.heap[w.heap.size]? = some (.cells (bys l) 5 (0, 0)) ∧ w'.heap.size = w.heap.size + 1 := by
  have hn := heap_alloc_new w (.cells (zb l.length) 5)
  have hl : (zb l.length).size = l.length := size_madeCells _ _
  have hr := run_copy_row (P := Ybaf.prog) (w.alloc (.cells (zb l.length) 5)) 29 29 ty 5 w.heap.size 0 l.length l.length ⟨gp, 0, none⟩ l.length cp (zb l.length) 5 (Lib.byteCells l) Ybaf.underlying29 size5 hn (by simp [Lib.byteCells])
    (fun j v hj => by
      have := hp j v hj
      rw [Addr.add_lit, Nat.zero_add]
      rw [World.cell?_of_block (w := w) (heap_alloc_old _ _ (h := hgp))]
      exact this) (by rw [hl]; simp [Lib.byteCells]) (oneCell_bytes l)
  have hlen : (Lib.byteCells l).length = l.length := by simp [Lib.byteCells]
  have hcs : ((zb l.length).toList.take 0 ++ Lib.byteCells l ++ (zb l.length).toList.drop (0 + (Lib.byteCells l).length)).toArray = bys l := by
    have hd : (zb l.length).toList.drop (0 + (Lib.byteCells l).length) = [] := List.drop_eq_nil_of_le (by rw [hlen]; simp [hl])
    rw [hd]
    simp [bys]
  rw [hcs] at hr
  refine ⟨_, ?_, ?_, setRow_heap _ _ _ _ _ _ hn, ?_⟩
  · rw [hr, hlen]
    rfl
  · refine ⟨rfl, rfl, rfl, by simp [World.setRow], fun k hk _ => ?_⟩
    have : ((w.alloc (.cells (zb l.length) 5)).setRow w.heap.size (bys l)).heap[k]? = (w.alloc (.cells (zb l.length) 5)).heap[k]? := by
      simp only [World.setRow, Array.getElem?_modify]
      rw [if_neg (by omega)]
    rw [this, heap_alloc_old _ _ (h := hk)]
  · simp [World.setRow]
end Go.Proofs.YbulkafjeFmt
