/-
  strconv.Itoa's CONTRACT OFF THE SHELF, at this dump, in plain words (written by the kit's lay-shelf.mjs and lay-plain.mjs for this program; cut down to the one contract that is used).
-/
import Derived.Shelf.LaysM
import Derived.Shelf.Strconv.Itoa3
import Derived.Test.YbulkafjeFmtRows
namespace Go.Proofs.YbulkafjeFmt
open Go.Shelf
def itoa_ren : Go.Shelf.Ren := ⟨fun | 171 => 8 | 243 => 10 | 246 => 11 | 283 => 12 | 284 => 13 | 285 => 14 | 286 => 15 | 129 => 17 | 317 => 16 | 318 => 18 | 319 => 19 | 320 => 20 | 337 => 21 | 338 => 22 | n => n, fun | 3 => 3 | 9 => 9 | 2 => 2 | 4 => 4 | 171 => 45 | 0 => 0 | 53 => 46 | 37 => 29 | 5 => 5 | 173 => 49 | 212 => 53 | 51 => 54 | 20 => 20 | 213 => 55 | 46 => 57 | 232 => 60 | 233 => 61 | n => n, fun | 17 => 0 | 18 => 1 | 19 => 2 | n => n⟩
theorem itoa_lays : Go.Proofs.LaysM.n171 Ybaf.prog itoa_ren := {
  mixed := by kernel_rfl
  f129 := Ybaf.func17.trans (congrArg some (by kernel_rfl))
  f171 := Ybaf.func8.trans (congrArg some (by kernel_rfl))
  f243 := Ybaf.func10.trans (congrArg some (by kernel_rfl))
  f246 := Ybaf.func11.trans (congrArg some (by kernel_rfl))
  f283 := Ybaf.func12.trans (congrArg some (by kernel_rfl))
  f284 := Ybaf.func13.trans (congrArg some (by kernel_rfl))
  f285 := Ybaf.func14.trans (congrArg some (by kernel_rfl))
  f286 := Ybaf.func15.trans (congrArg some (by kernel_rfl))
  f317 := Ybaf.func16.trans (congrArg some (by kernel_rfl))
  f318 := Ybaf.func18.trans (congrArg some (by kernel_rfl))
  f319 := Ybaf.func19.trans (congrArg some (by kernel_rfl))
  f320 := Ybaf.func20.trans (congrArg some (by kernel_rfl))
  f337 := Ybaf.func21.trans (congrArg some (by kernel_rfl))
  f338 := Ybaf.func22.trans (congrArg some (by kernel_rfl))
  t0 := Ybaf.underlying0
  a0 := Ybaf.isAgg0
  z0 := Ybaf.sizeOf0
  v0 := Ybaf.zeroValue0
  t2 := Ybaf.underlying2
  a2 := Ybaf.isAgg2
  z2 := Ybaf.sizeOf2
  v2 := Ybaf.zeroValue2
  t3 := Ybaf.underlying3
  a3 := Ybaf.isAgg3
  z3 := Ybaf.sizeOf3
  v3 := Ybaf.zeroValue3
  t4 := Ybaf.underlying4
  a4 := Ybaf.isAgg4
  z4 := Ybaf.sizeOf4
  v4 := Ybaf.zeroValue4
  t5 := Ybaf.underlying5
  a5 := Ybaf.isAgg5
  z5 := Ybaf.sizeOf5
  v5 := Ybaf.zeroValue5
  t9 := Ybaf.underlying9
  a9 := Ybaf.isAgg9
  z9 := Ybaf.sizeOf9
  v9 := Ybaf.zeroValue9
  t20 := Ybaf.underlying20
  a20 := Ybaf.isAgg20
  z20 := Ybaf.sizeOf20
  v20 := Ybaf.zeroValue20
  t37 := Ybaf.underlying29
  a37 := Ybaf.isAgg29
  z37 := Ybaf.sizeOf29
  v37 := Ybaf.zeroValue29
  t46 := Ybaf.underlying57
  a46 := Ybaf.isAgg57
  z46 := Ybaf.sizeOf57
  v46 := Ybaf.zeroValue57
  t51 := Ybaf.underlying54
  a51 := Ybaf.isAgg54
  z51 := Ybaf.sizeOf54
  v51 := Ybaf.zeroValue54
  t53 := Ybaf.underlying46
  a53 := Ybaf.isAgg46
  z53 := Ybaf.sizeOf46
  v53 := Ybaf.zeroValue46
  t171 := Ybaf.underlying45
  a171 := Ybaf.isAgg45
  z171 := Ybaf.sizeOf45
  v171 := Ybaf.zeroValue45
  t173 := Ybaf.underlying49
  a173 := Ybaf.isAgg49
  z173 := Ybaf.sizeOf49
  v173 := Ybaf.zeroValue49
  t212 := Ybaf.underlying53
  a212 := Ybaf.isAgg53
  z212 := Ybaf.sizeOf53
  v212 := Ybaf.zeroValue53
  t213 := Ybaf.underlying55
  a213 := Ybaf.isAgg55
  z213 := Ybaf.sizeOf55
  t232 := Ybaf.underlying60
  a232 := Ybaf.isAgg60
  z232 := Ybaf.sizeOf60
  v232 := Ybaf.zeroValue60
  t233 := Ybaf.underlying61
  a233 := Ybaf.isAgg61
  z233 := Ybaf.sizeOf61
  v233 := Ybaf.zeroValue61
  g17 := by kernel_rfl
  g18 := by kernel_rfl
  g19 := by kernel_rfl
  i0 := by kernel_rfl
  i2 := by kernel_rfl
  i3 := by kernel_rfl
  i4 := by kernel_rfl
  i5 := by kernel_rfl
  i9 := by kernel_rfl
  i20 := by kernel_rfl
  i37 := by kernel_rfl
  i46 := by kernel_rfl
  i51 := by kernel_rfl
  i53 := by kernel_rfl
  i171 := by kernel_rfl
  i173 := by kernel_rfl
  i212 := by kernel_rfl
  i232 := by kernel_rfl
  i233 := by kernel_rfl
  m17 := by kernel_rfl
  m18 := by kernel_rfl
  m19 := by kernel_rfl }

/-- The name of the table that Itoa reads, as the given row lists it. -/
def tabName : String := (Rows.lawS1564BExactRow.laid.getD 2 (Rows.lawS1564BExactRow.func, .nil)).1

open Go.RowKit Go.Sort Go.Lib in
theorem itoa_any (n : Int) (h0 : -9223372036854775808 ≤ n) (h1 : n ≤ 9223372036854775807) (w : World) (htab : Lib.TabIs Ybaf.prog w tabName .u64 Lib.pow10Tab) :
    Calls Ybaf.prog 8 #[.int .i64 n] w fun e w' => e = .returned (.string ⟨(Lib.itoa n).toArray⟩) ∧ ∃ k os, w' = grow (w.drewN k) os := Any.strconv_Itoa itoa_lays n h0 h1 w htab
end Go.Proofs.YbulkafjeFmt
