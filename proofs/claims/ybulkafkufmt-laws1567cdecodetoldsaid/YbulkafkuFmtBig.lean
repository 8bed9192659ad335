/-
  (encoding/binary.bigEndian).Uint64's CONTRACT OFF THE SHELF, at this dump.
-/
import Derived.Shelf.Bin.ReadersZ
import Derived.Test.YbulkafkuFmtRows
namespace Go.Proofs.YbulkafkuFmt
open Go.Shelf Go.RowKit
def big_ren : Go.Shelf.Ren := ⟨fun | 42 => 23 | n => n, fun | 0 => 0 | 5 => 5 | 22 => 56 | 33 => 38 | 37 => 93 | 45 => 62 | n => n, fun n => n⟩
theorem big_lays : Go.Proofs.LaysBin.n42 Ybaf.prog big_ren := {
  mixed := by kernel_rfl
  f42 := Ybaf.func23.trans (congrArg some (by kernel_rfl))
  t0 := Ybaf.underlying0
  a0 := Ybaf.isAgg0
  z0 := Ybaf.sizeOf0
  v0 := Ybaf.zeroValue0
  i0 := by kernel_rfl
  t5 := Ybaf.underlying5
  a5 := Ybaf.isAgg5
  z5 := Ybaf.sizeOf5
  v5 := Ybaf.zeroValue5
  i5 := by kernel_rfl
  t22 := Ybaf.underlying56
  a22 := Ybaf.isAgg56
  z22 := Ybaf.sizeOf56
  v22 := Ybaf.zeroValue56
  i22 := by kernel_rfl
  t33 := Ybaf.underlying38
  a33 := Ybaf.isAgg38
  z33 := Ybaf.sizeOf38
  v33 := Ybaf.zeroValue38
  i33 := by kernel_rfl
  t37 := Ybaf.underlying93
  a37 := Ybaf.isAgg93
  z37 := Ybaf.sizeOf93
  v37 := Ybaf.zeroValue93
  i37 := by kernel_rfl
  t45 := Ybaf.underlying62
  a45 := Ybaf.isAgg62
  z45 := Ybaf.sizeOf62
  v45 := Ybaf.zeroValue62
  i45 := by kernel_rfl }

/-- binary.BigEndian.Uint64 of a slice whose cells hold zs: the number that the first eight spell. -/
theorem big_any (a : Addr) (n c : Nat) (zs : List Int) (w : World) (hn : 8 ≤ n) (hl : 8 ≤ zs.length)
    (hcell : ∀ i, i < zs.length → w.cell? (a.add i) = some (.int .u8 (zs.getD i 0))) (hw : ∀ z ∈ zs, (Lit.int .u8 z).wf = true) :
    Calls Ybaf.prog 23 #[.agg #[], .slice (some a) n c] w fun e w' => e = .returned (.int .u64 (Lib.beZ (zs.take 8))) ∧ Below w.heap.size w w' :=
  Any.binary_BE_Uint64_z big_lays a n c zs w hn hl hcell hw
end Go.Proofs.YbulkafkuFmt
