/-
  THE CONTRACTS OF fmt.Fprintf AT THE THREE FORMATS OF 'writeHead', AND OF 'writeHead' ITSELF: over fmt's stop (F), the text that F gives handed on to the writer.
-/
import Derived.Test.YbulkafjeFmtWrite
import Derived.Stop.CallBack
import Derived.Stop.IfaceNil
import GoSem.ClaimData
namespace Go.Proofs.YbulkafjeFmt
open Go.RowKit Go.Extern.Stop Go.Stop Go.Extern

theorem call9 (args : Array Value) (w : World) : (callFunc 9 args).run Ybaf.prog w = ((FmtStop.sprintf #[9, 41] #[9] args).run Ybaf.prog w).andThen fun v w' => .ok (.value v) w' :=
  run_callFunc_extern Ybaf.func9 (by kernel_rfl) (by kernel_rfl) (by kernel_rfl) (by kernel_rfl) args w
theorem guard_ok (name : String) (w : World) : (FmtStop.guard name).run Ybaf.prog w = .ok () w := by kernel_rfl
theorem fmtP : FmtStop.printed? ⟨#[112, 114, 111, 116, 111, 99, 111, 108, 32, 37, 115, 10]⟩ 1 = some [(0, 115, false)] := by kernel_rfl
theorem fmtPr (w : World) : (FmtDoors.printed ⟨#[112, 114, 111, 116, 111, 99, 111, 108, 32, 37, 115, 10]⟩ 1).run Ybaf.prog w = .ok [(0, 115, false)] w := by kernel_rfl
theorem fmtN : FmtStop.printed? ⟨#[110, 32, 37, 100, 10]⟩ 1 = some [(0, 100, false)] := by kernel_rfl
theorem fmtNr (w : World) : (FmtDoors.printed ⟨#[110, 32, 37, 100, 10]⟩ 1).run Ybaf.prog w = .ok [(0, 100, false)] w := by kernel_rfl
theorem fmtT : FmtStop.printed? ⟨#[116, 32, 37, 100, 10]⟩ 1 = some [(0, 100, false)] := by kernel_rfl
theorem fmtTr (w : World) : (FmtDoors.printed ⟨#[116, 32, 37, 100, 10]⟩ 1).run Ybaf.prog w = .ok [(0, 100, false)] w := by kernel_rfl
def shape3 : List UInt8 := [5, 3, 0, 0, 0, 0, 0, 0, 0, 105, 110, 116]
def shape9 : List UInt8 := [12, 6, 0, 0, 0, 0, 0, 0, 0, 115, 116, 114, 105, 110, 103]
theorem op3 (name : String) (x : Int) (w : World) : (FmtStop.operand name false 100 false (.iface 3 (.int .i64 x))).run Ybaf.prog w = .ok (shape3, Go.Extern.Stop.digits 8 (x % 2 ^ 64).toNat) w := by kernel_rfl
theorem op9 (name : String) (x : ByteArray) (w : World) : (FmtStop.operand name false 115 false (.iface 9 (.string x))).run Ybaf.prog w = .ok (shape9, FmtStop.pack x.data.toList) w := by kernel_rfl

attribute [local go_sem] call9 guard_ok fmtP fmtPr fmtN fmtNr fmtT fmtTr op3 op9


theorem meth (a : Addr) (w : World) : (method 183 22 (.pointer (some a)) "Write").run Ybaf.prog w = .ok (38, .pointer (some a)) w := by kernel_rfl
attribute [local go_sem] meth

theorem write_any (fl : Bool) (B bw gp cp : Nat) (l : List UInt8) (cs : List (List UInt8)) (w : World) (hW : Wr w B bw fl cs) (hp : BytesAt w gp l) (hgp : gp < w.heap.size) (hl : l.length ≤ 4096) (hcs : cs.length ≤ 10) (hB : B ≤ bw) (hBs : B ≤ w.heap.size) :
    Calls Ybaf.prog 38 #[.pointer (some ⟨bw, 0, none⟩), .slice (some ⟨gp, 0, none⟩) l.length cp] w fun e w' => (∃ x y, e = .returned (.tuple #[.int .i64 x, y])) ∧ Wr w' B bw fl (cs ++ [l]) ∧ Kept B w w' := by
  cases fl
  · exact write_ok B bw gp cp l cs w hW hp hgp hl hcs hB hBs
  · exact write_fail B bw gp cp l cs w hW hp hgp hl hcs hB hBs

set_option maxHeartbeats 1000000 in
theorem fprintf_s (F : Interp) (fl : Bool) (B bw b c : Nat) (x : ByteArray) (T : List UInt8) (cs : List (List UInt8)) (w : World) (hF : F.answers w.tape) (hc : w.cell? ⟨b, 0, none⟩ = some (.iface 9 (.string x)))
    (hT : FmtStop.textOf (F "fmt.Sprintf" [[112, 114, 111, 116, 111, 99, 111, 108, 32, 37, 115, 10], shape9, FmtStop.pack x.data.toList] 0) = ⟨T.toArray⟩)
    (hW : Wr w B bw fl cs) (hl : T.length ≤ 4096) (hcs : cs.length ≤ 10) (hB : B ≤ bw) (hBs : B ≤ w.heap.size) :
    Calls Ybaf.prog 7 #[.iface 22 (.pointer (some ⟨bw, 0, none⟩)), .string ⟨#[112, 114, 111, 116, 111, 99, 111, 108, 32, 37, 115, 10]⟩, .slice (some ⟨b, 0, none⟩) 1 c] w fun e w' => (∃ x y, e = .returned (.tuple #[.int .i64 x, y])) ∧ Wr w' B bw fl (cs ++ [T]) ∧ Kept B w w' := by
  have hF' := answers_open hF
  obtain ⟨cap, w1, hcv, hg1, hby, hlt⟩ := conv_bytes ⟨T.toArray⟩ w.drew
  have hW1 : Wr w1 B bw fl cs := hW.kept ⟨hg1.os, hg1.tape, hg1.output, hg1.size, hg1.block⟩
  go_enter Ybaf.func7, Ybaf.ntmps7
  go_wp2_with (go_at_call 38; refine (write_any fl B bw w.heap.size cap T cs w1 hW1 hby (by exact hlt) hl hcs hB (Nat.le_trans hBs hg1.size)).mono ?_; rintro e w2 ⟨⟨x1, y1, rfl⟩, hW2, hK2⟩)
  go_ret2
  exact ⟨⟨_, _, rfl⟩, hW2, (Kept.grown (a := w) ⟨hg1.os, hg1.tape, hg1.output, hg1.size, hg1.block⟩ hBs).trans hK2⟩

set_option maxHeartbeats 1000000 in
theorem fprintf_n (F : Interp) (fl : Bool) (B bw b c : Nat) (x : Int) (T : List UInt8) (cs : List (List UInt8)) (w : World) (hF : F.answers w.tape) (hc : w.cell? ⟨b, 0, none⟩ = some (.iface 3 (.int .i64 x)))
    (hT : FmtStop.textOf (F "fmt.Sprintf" [[110, 32, 37, 100, 10], shape3, Go.Extern.Stop.digits 8 (x % 18446744073709551616).toNat] 0) = ⟨T.toArray⟩)
    (hW : Wr w B bw fl cs) (hl : T.length ≤ 4096) (hcs : cs.length ≤ 10) (hB : B ≤ bw) (hBs : B ≤ w.heap.size) :
    Calls Ybaf.prog 7 #[.iface 22 (.pointer (some ⟨bw, 0, none⟩)), .string ⟨#[110, 32, 37, 100, 10]⟩, .slice (some ⟨b, 0, none⟩) 1 c] w fun e w' => (∃ x y, e = .returned (.tuple #[.int .i64 x, y])) ∧ Wr w' B bw fl (cs ++ [T]) ∧ Kept B w w' := by
  have hF' := answers_open hF
  obtain ⟨cap, w1, hcv, hg1, hby, hlt⟩ := conv_bytes ⟨T.toArray⟩ w.drew
  have hW1 : Wr w1 B bw fl cs := hW.kept ⟨hg1.os, hg1.tape, hg1.output, hg1.size, hg1.block⟩
  go_enter Ybaf.func7, Ybaf.ntmps7
  go_wp2_with (go_at_call 38; refine (write_any fl B bw w.heap.size cap T cs w1 hW1 hby (by exact hlt) hl hcs hB (Nat.le_trans hBs hg1.size)).mono ?_; rintro e w2 ⟨⟨x1, y1, rfl⟩, hW2, hK2⟩)
  go_ret2
  exact ⟨⟨_, _, rfl⟩, hW2, (Kept.grown (a := w) ⟨hg1.os, hg1.tape, hg1.output, hg1.size, hg1.block⟩ hBs).trans hK2⟩

set_option maxHeartbeats 1000000 in
theorem fprintf_t (F : Interp) (fl : Bool) (B bw b c : Nat) (x : Int) (T : List UInt8) (cs : List (List UInt8)) (w : World) (hF : F.answers w.tape) (hc : w.cell? ⟨b, 0, none⟩ = some (.iface 3 (.int .i64 x)))
    (hT : FmtStop.textOf (F "fmt.Sprintf" [[116, 32, 37, 100, 10], shape3, Go.Extern.Stop.digits 8 (x % 18446744073709551616).toNat] 0) = ⟨T.toArray⟩)
    (hW : Wr w B bw fl cs) (hl : T.length ≤ 4096) (hcs : cs.length ≤ 10) (hB : B ≤ bw) (hBs : B ≤ w.heap.size) :
    Calls Ybaf.prog 7 #[.iface 22 (.pointer (some ⟨bw, 0, none⟩)), .string ⟨#[116, 32, 37, 100, 10]⟩, .slice (some ⟨b, 0, none⟩) 1 c] w fun e w' => (∃ x y, e = .returned (.tuple #[.int .i64 x, y])) ∧ Wr w' B bw fl (cs ++ [T]) ∧ Kept B w w' := by
  have hF' := answers_open hF
  obtain ⟨cap, w1, hcv, hg1, hby, hlt⟩ := conv_bytes ⟨T.toArray⟩ w.drew
  have hW1 : Wr w1 B bw fl cs := hW.kept ⟨hg1.os, hg1.tape, hg1.output, hg1.size, hg1.block⟩
  go_enter Ybaf.func7, Ybaf.ntmps7
  go_wp2_with (go_at_call 38; refine (write_any fl B bw w.heap.size cap T cs w1 hW1 hby (by exact hlt) hl hcs hB (Nat.le_trans hBs hg1.size)).mono ?_; rintro e w2 ⟨⟨x1, y1, rfl⟩, hW2, hK2⟩)
  go_ret2
  exact ⟨⟨_, _, rfl⟩, hW2, (Kept.grown (a := w) ⟨hg1.os, hg1.tape, hg1.output, hg1.size, hg1.block⟩ hBs).trans hK2⟩
end Go.Proofs.YbulkafjeFmt
