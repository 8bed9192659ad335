/-
  THE CONTRACT OF zzs1564blines: the three lines that are wanted.
-/
import Derived.Test.YbulkafjeFmtHead
import Derived.Stop.FmtTextKit
namespace Go.Proofs.YbulkafjeFmt
open Go.RowKit Go.Extern.Stop Go.Stop Go.Extern

def lineP (x : List UInt8) : List UInt8 := [112, 114, 111, 116, 111, 99, 111, 108, 32] ++ x ++ [10]
def lineN (n : Int) : List UInt8 := [110, 32] ++ Lib.itoa n ++ [10]
def lineT (n : Int) : List UInt8 := [116, 32] ++ Lib.itoa n ++ [10]

set_option maxHeartbeats 1000000 in
theorem lines_any (x : ByteArray) (n t : Int) (w : World) (hx : x.size ≤ 1024) (hn0 : -9223372036854775808 ≤ n) (hn1 : n ≤ 9223372036854775807) (ht0 : -9223372036854775808 ≤ t) (ht1 : t ≤ 9223372036854775807) (hn : (Lib.itoa n).length ≤ 21) (ht : (Lib.itoa t).length ≤ 21)
    (htab : Lib.TabBelow Ybaf.prog w.heap.size w tabName .u64 Lib.pow10Tab) :
    Calls Ybaf.prog 6 #[.string x, .int .i64 n, .int .i64 t] w fun e w' => ∃ g, e = .returned (.slice (some ⟨g, 0, none⟩) 3 3) ∧ w'.heap[g]? = some (.cells #[.string ⟨(lineP x.data.toList).toArray⟩, .string ⟨(lineN n).toArray⟩, .string ⟨(lineT t).toArray⟩] 9 (0, 0)) ∧ w.grownBy w' none := by
  have HTab := hide htab
  clear htab
  go_enter Ybaf.func6, Ybaf.ntmps6
  have sn : (⟨(Lib.itoa n).toArray⟩ : ByteArray).size ≤ 21 := hn
  have st : (⟨(Lib.itoa t).toArray⟩ : ByteArray).size ≤ 21 := ht
  go_wp2_with fail
  refine (itoa_any n hn0 hn1 _ HTab.out.here).mono ?_
  rintro e w1 ⟨rfl, k1, os1, hw1⟩
  have hg1 : w.grownBy w1 none := by rw [hw1]; exact grown_grow w k1 os1
  have ht1' : Lib.TabIs Ybaf.prog w1 tabName .u64 Lib.pow10Tab := HTab.out w1 ⟨hg1.os, hg1.tape, hg1.output, hg1.size, fun k hk => hg1.block k hk (by simp)⟩
  have HT1 := hide ht1'
  clear hw1 ht1'
  generalize hsn : (⟨(Lib.itoa n).toArray⟩ : ByteArray) = an at sn ⊢
  have HSN := hide hsn
  clear hsn
  go_wp2_with fail
  refine (itoa_any t ht0 ht1 _ HT1.out).mono ?_
  rintro e w2 ⟨rfl, k2, os2, hw2⟩
  have hg2 : w1.grownBy w2 none := by rw [hw2]; exact grown_grow w1 k2 os2
  clear hw2
  generalize hst : (⟨(Lib.itoa t).toArray⟩ : ByteArray) = at_ at st ⊢
  have HST := hide hst
  clear hst
  go_wp2
  go_ret
  have e1 : ({ data := #[112, 114, 111, 116, 111, 99, 111, 108, 32] } ++ x ++ { data := #[10] } : ByteArray) = ⟨(lineP x.data.toList).toArray⟩ := by
    apply ByteArray.ext
    simp [lineP]
  have e2 : ({ data := #[110, 32] } ++ an ++ { data := #[10] } : ByteArray) = ⟨(lineN n).toArray⟩ := by
    rw [← HSN.out]
    apply ByteArray.ext
    simp [lineN]
  have e3 : ({ data := #[116, 32] } ++ at_ ++ { data := #[10] } : ByteArray) = ⟨(lineT t).toArray⟩ := by
    rw [← HST.out]
    apply ByteArray.ext
    simp [lineT]
  refine ⟨w2.heap.size, rfl, ?_, grown_then (grown_then hg1 hg2) (World.grownBy_alloc w2 _ none)⟩
  rw [e1, e2, e3, heap_alloc_new]
end Go.Proofs.YbulkafjeFmt
