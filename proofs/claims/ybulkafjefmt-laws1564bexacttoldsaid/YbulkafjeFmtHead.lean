/-
  THE CONTRACT OF 'writeHead': three lines, each handed to the writer by itself.
-/
import Derived.Test.YbulkafjeFmtFprintf
namespace Go.Proofs.YbulkafjeFmt
open Go.RowKit Go.Extern.Stop Go.Stop Go.Extern

/-- What fmt is asked at the three calls. -/
def rdP (x : ByteArray) : List (List UInt8) := [[112, 114, 111, 116, 111, 99, 111, 108, 32, 37, 115, 10], shape9, FmtStop.pack x.data.toList]
def rdN (n : Int) : List (List UInt8) := [[110, 32, 37, 100, 10], shape3, Go.Extern.Stop.digits 8 (n % 18446744073709551616).toNat]
def rdT (n : Int) : List (List UInt8) := [[116, 32, 37, 100, 10], shape3, Go.Extern.Stop.digits 8 (n % 18446744073709551616).toNat]

theorem alloc2 (w : World) (o1 o2 : Obj) : ((w.alloc o1).alloc o2).heap[w.heap.size]? = some o1 ∧ ((w.alloc o1).alloc o2).heap[w.heap.size + 1]? = some o2 ∧ w.grownBy ((w.alloc o1).alloc o2) none := by
  have e1 : (w.alloc o1).heap.size = w.heap.size + 1 := by simp
  refine ⟨?_, ?_, grown_then (World.grownBy_alloc w o1 none) (World.grownBy_alloc _ o2 none)⟩
  · rw [heap_alloc_old (h := by omega), heap_alloc_new]
  · rw [← e1, heap_alloc_new]

set_option maxHeartbeats 1000000 in
theorem writeHead_any (F : Interp) (fl : Bool) (B bw : Nat) (x : ByteArray) (n t tr : Int) (nt : Bool) (T1 T2 T3 : List UInt8) (w : World) (hF : F.answers w.tape)
    (hT1 : FmtStop.textOf (F "fmt.Sprintf" (rdP x) 0) = ⟨T1.toArray⟩) (hT2 : FmtStop.textOf (F "fmt.Sprintf" (rdN n) 0) = ⟨T2.toArray⟩) (hT3 : FmtStop.textOf (F "fmt.Sprintf" (rdT t) 0) = ⟨T3.toArray⟩)
    (hW : Wr w B bw fl []) (hl1 : T1.length ≤ 4096) (hl2 : T2.length ≤ 4096) (hl3 : T3.length ≤ 4096) (hB : B ≤ bw) (hBs : B ≤ w.heap.size) :
    Calls Ybaf.prog 5 #[.iface 22 (.pointer (some ⟨bw, 0, none⟩)), .string x, .agg #[.int .i64 n, .int .i64 t, .int .i64 tr, .bool nt]] w fun e w' => e = .returned (.tuple #[]) ∧ Wr w' B bw fl [T1, T2, T3] ∧ Kept B w w' := by
  have HT1 := hide hT1
  have HT2 := hide hT2
  have HT3 := hide hT3
  clear hT1 hT2 hT3
  go_enter Ybaf.func5, Ybaf.ntmps5
  obtain ⟨m1, i1, g1⟩ := alloc2 w (.cells #[.int .i64 n, .int .i64 t, .int .i64 tr, .bool nt] 28) (.cells #[.iface 9 (.string x)] 20)
  have M1 := hide m1
  have I1 := hide (cell_blk (i := 0) (v := .iface 9 (.string x)) i1 rfl)
  have hsz := g1.size
  clear m1 i1
  go_wp2_with fail
  refine (fprintf_s F fl B bw (w.heap.size + 1) 1 x T1 [] _ (by rw [g1.tape]; exact hF) I1.out HT1.out (hW.kept g1) hl1 (by simp) hB (by omega)).mono ?_
  rintro e w2 ⟨⟨x1, y1, rfl⟩, hW2, hK2⟩
  have hm2 := hK2.old _ _ _ _ M1.out (by decide) (by decide)
  have hb2 := hK2.below.size
  have ht2 : w2.tape = w.tape := hK2.below.tape.trans g1.tape
  have c20 := cell_blk (i := 0) (v := .int .i64 n) hm2 rfl
  have hF2 : F.answers w2.tape := by rw [ht2]; exact hF
  have hlt2 := lt_of_block hm2
  have HM2 := hide hm2
  have HT2' := hide ht2
  clear hm2 ht2
  go_wp2_with fail
  refine (fprintf_n F fl B bw w2.heap.size 1 n T2 [T1] _ (by exact hF2) (cell_blk (heap_alloc_new w2 _) rfl) HT2.out (hW2.kept (World.grownBy_alloc w2 _ none)) hl2 (by simp) hB (by simp; omega)).mono ?_
  rintro e w3 ⟨⟨x2, y2, rfl⟩, hW3, hK3⟩
  have hm3 := hK3.old _ _ _ _ ((heap_alloc_old w2 _ (h := hlt2)).trans HM2.out) (by decide) (by decide)
  have hb3 := hK3.below.size
  have c31 := cell_blk (i := 1) (v := .int .i64 t) hm3 rfl
  have hF3 : F.answers w3.tape := by rw [hK3.below.tape]; exact hF2
  clear hm3
  go_wp2_with fail
  refine (fprintf_t F fl B bw w3.heap.size 1 t T3 ([T1] ++ [T2]) _ (by exact hF3) (cell_blk (heap_alloc_new w3 _) rfl) HT3.out (hW3.kept (World.grownBy_alloc w3 _ none)) hl3 (by simp) hB (by simp at hb3 ⊢; omega)).mono ?_
  rintro e w4 ⟨⟨x3, y3, rfl⟩, hW4, hK4⟩
  go_wp2
  go_end0
  have hb3' : w2.heap.size + 1 ≤ w3.heap.size := by simpa using hb3
  exact ⟨rfl, hW4, (((((Kept.grown g1 hBs).trans hK2).trans (Kept.grown (World.grownBy_alloc w2 _ none) (by omega))).trans hK3).trans (Kept.grown (World.grownBy_alloc w3 _ none) (by omega))).trans hK4⟩
end Go.Proofs.YbulkafjeFmt
