/-
  'DecodeIntegerKey' AT EIGHT BYTES; 'decodeKey' AT AN INTEGER KEY.
-/
import Derived.Test.YbulkafkuFmtErr
import Derived.Test.YbulkafkuFmtBig
namespace Go.Proofs.YbulkafkuFmt
open Go.RowKit Go.Extern.Stop Go.Stop Go.Extern

/-- The integer that eight bytes stand for. -/
def keyOf (zs : List Int) : Int := wrap64 (bits BinOp.xor IntKind.u64 (Lib.beZ zs) 9223372036854775808)

set_option maxRecDepth 100000 in
set_option maxHeartbeats 1000000 in
theorem decode_good (a : Addr) (c : Nat) (zs : List Int) (w : World) (hl : zs.length = 8)
    (hcell : ∀ i, i < zs.length → w.cell? (a.add i) = some (.int .u8 (zs.getD i 0))) (hw : ∀ z ∈ zs, (Lit.int .u8 z).wf = true) :
    Calls Ybaf.prog 16 #[.slice (some a) 8 c] w fun e w' => e = .returned (.tuple #[.int .i64 (keyOf zs), .nilIface]) ∧ Below w.heap.size w w' := by
  have hB := big_any a 8 c zs w (Nat.le_refl _) (by omega) hcell hw
  rw [List.take_of_length_le (by omega)] at hB
  go_enter Ybaf.func16, Ybaf.ntmps16
  go_wp2_with (go_at_call 23; refine hB.mono ?_; rintro e w1 ⟨rfl, hb1⟩)
  go_ret2
  exact ⟨rfl, hb1⟩

set_option maxRecDepth 100000 in
set_option maxHeartbeats 1000000 in
/-- 'decodeKey' over an INTEGER key column: what 'DecodeIntegerKey' gives, boxed. -/
theorem decode_int (Q : Value → Value → World → Prop) (b g n k : Nat) (ao : Option Addr) (l c : Nat) (w : World) (ht : TableIs w b g n k 1)
    (hcall : Calls Ybaf.prog 16 #[.slice ao l c] w.drew fun e w' => ∃ x y, e = .returned (.tuple #[.int .i64 x, y]) ∧ Q (.int .i64 x) y w') :
    Calls Ybaf.prog 10 #[.pointer (some ⟨b, 0, none⟩), .slice ao l c] w fun e w' => ∃ x y, e = .returned (.tuple #[.iface 2 (.int .i64 x), y]) ∧ Q (.int .i64 x) y w' := by
  obtain ⟨h1, h2, h3, h4, h5⟩ := ht
  rw [Nat.mul_comm] at h3
  go_enter Ybaf.func10, Ybaf.ntmps10
  go_wp2_with fail
  go_region
  all_goals (try go_wp2_with fail)
  all_goals (refine hcall.mono ?_; rintro e w1 ⟨x, y, rfl, hq⟩)
  all_goals (try go_wp2)
  all_goals go_ret2
  all_goals exact ⟨_, _, rfl, hq⟩
end Go.Proofs.YbulkafkuFmt
