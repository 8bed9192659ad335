/-
  'DecodeIntegerKey' AT A KEY THAT IS NOT EIGHT BYTES LONG: fmt.Errorf's plain stop under '%w' of the sentinel.
-/
import Derived.Test.YbulkafkuFmtIs
import Derived.Stop.CallBack
import Derived.Stop.IfaceNil
import GoSem.ClaimData
namespace Go.Proofs.YbulkafkuFmt
open Go.RowKit Go.Extern.Stop Go.Stop Go.Extern

abbrev badFmt : ByteArray := ⟨#[37, 119, 58, 32, 97, 110, 32, 73, 78, 84, 69, 71, 69, 82, 32, 107, 101, 121, 32, 111, 102, 32, 37, 100, 32, 98, 121, 116, 101, 115]⟩
theorem call25 (args : Array Value) (w : World) : (callFunc 25 args).run Ybaf.prog w = ((FmtStop.errorf #[9, 76] #[40] args).run Ybaf.prog w).andThen fun v w' => .ok (.value v) w' :=
  run_callFunc_extern Ybaf.func25 (by kernel_rfl) (by kernel_rfl) (by kernel_rfl) (by kernel_rfl) args w
theorem guard_ok (name : String) (w : World) : (FmtStop.guard name).run Ybaf.prog w = .ok () w := by kernel_rfl
theorem fmtB : FmtStop.printed? badFmt 2 = some [(0, 119, false), (1, 100, false)] := by kernel_rfl
theorem fmtBr (w : World) : (FmtDoors.printed badFmt 2).run Ybaf.prog w = .ok [(0, 119, false), (1, 100, false)] w := by kernel_rfl
def shape3 : List UInt8 := [5, 3, 0, 0, 0, 0, 0, 0, 0, 105, 110, 116]
theorem op3 (name : String) (x : Int) (w : World) : (FmtStop.operand name true 100 false (.iface 3 (.int .i64 x))).run Ybaf.prog w = .ok (shape3, Go.Extern.Stop.digits 8 (x % 2 ^ 64).toNat) w := by kernel_rfl
theorem ptr99 (w : World) : (FmtStop.ptrTo "errors.errorString").run Ybaf.prog w = .ok 99 w := by kernel_rfl
theorem elem99 (w : World) : (elemOf 99).run Ybaf.prog w = .ok 101 w := by kernel_rfl
theorem isError99 (w : World) : (FmtDoors.textMethod 99 "Error").run Ybaf.prog w = .ok true w := by kernel_rfl
theorem ptr97 (w : World) : (FmtStop.ptrTo "fmt.wrapError").run Ybaf.prog w = .ok 97 w := by kernel_rfl
theorem elem97 (w : World) : (elemOf 97).run Ybaf.prog w = .ok 165 w := by kernel_rfl
theorem isError97 (w : World) : (FmtDoors.textMethod 97 "Error").run Ybaf.prog w = .ok true w := by kernel_rfl
/-- The name of the type that the listed sentinel has (a pointer to errors.errorString), off the row itself. -/
def nameIn : DataW Unit → String
  | .iface nm _ => nm
  | _ => ""
abbrev errType : String := nameIn Rows.laid_example_com_pagewright_pagewright_internal_record_ErrMalformed
def plain99 : List UInt8 := 14 :: FmtStop.pack errType.toUTF8.data.toList
theorem opPlain99 (name : String) (a : Addr) (s : ByteArray) (w : World) (hc : w.cell? a = some (.string s)) :
    (FmtStop.operand name true 119 false (.iface 99 (.pointer (some a)))).run Ybaf.prog w = .ok (plain99, s.data.toList) w := by
  have h1 : (typeStr 99).run Ybaf.prog w = .ok errType w := by kernel_rfl
  have d2 : Ybaf.t99.desc = .pointer 101 := rfl
  have d3 : Ybaf.t101.desc = .named "errors.errorString" 100 := rfl
  simp [FmtStop.operand, h1, d2, d3, run_load, hc, plain99]

theorem new2_cell (w : World) (A : Obj) (cs : Array Value) (t : TypeId) (i : Nat) (v : Value) (h : cs[i]? = some v) : (((w.alloc A).alloc (.cells cs t)).drew).cell? ⟨w.heap.size + 1, i, none⟩ = some v := by
  have h2 := heap_alloc_new (w.alloc A) (.cells cs t)
  have e : (w.alloc A).heap.size = w.heap.size + 1 := by simp
  rw [e] at h2
  exact cell_blk (w := ((w.alloc A).alloc (.cells cs t)).drew) h2 h
theorem new2_below (w : World) (A B : Obj) : Below w.heap.size w (((w.alloc A).alloc B).drew) := by
  have h1 : Below w.heap.size w (w.alloc A) := (Below.refl _ _).alloc (Nat.le_refl _) _
  have h2 : Below w.heap.size w ((w.alloc A).alloc B) := h1.alloc h1.size _
  exact ⟨h2.os, h2.tape, h2.output, h2.size, h2.block⟩

attribute [local go_sem] call25 guard_ok fmtB fmtBr op3 ptr99 elem99 isError99 ptr97 elem97 isError97

set_option maxRecDepth 100000 in
set_option maxHeartbeats 1000000 in
theorem decode_bad (F : Interp) (ao : Option Addr) (l c : Nat) (a : Addr) (s : ByteArray) (w : World) (hF : F.answers w.tape) (hl : l ≠ 8) (_hl2 : l ≤ 1024)
    (hg : w.cell? ⟨1, 0, none⟩ = some (.iface 99 (.pointer (some a)))) (hs : w.cell? a = some (.string s)) :
    Calls Ybaf.prog 16 #[.slice ao l c] w fun e w' => ∃ pb, e = .returned (.tuple #[.int .i64 0, .iface 97 (.pointer (some ⟨pb, 0, none⟩))]) ∧ w'.cell? ⟨pb, 1, none⟩ = some (.iface 99 (.pointer (some a))) ∧ Below w.heap.size w w' := by
  have hF' := answers_open hF
  have hlt := World.block_lt_of_cell? _ _ hs
  have hs1 : (w.alloc (.cells #[.iface 99 (.pointer (some a)), .iface 3 (.int .i64 l)] 20)).cell? a = some (.string s) := (World.cell?_alloc_lt _ _ _ hlt).trans hs
  have hop := opPlain99 "fmt.errorf" a s _ hs1
  have hne : ((l : Int) == 8) = false := by rw [beq_eq_false_iff_ne]; omega
  go_enter Ybaf.func16, Ybaf.ntmps16
  go_wp2
  go_ret2
  exact ⟨w.heap.size + 1, rfl, new2_cell _ _ _ _ _ _ rfl, new2_below _ _ _⟩
end Go.Proofs.YbulkafkuFmt
