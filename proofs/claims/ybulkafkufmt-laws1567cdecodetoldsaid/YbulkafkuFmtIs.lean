/-
  errors.Is BY ITS CONTRACT, where a *fmt.wrapError wraps the sentinel itself: after the guide's worked example (Sentry), turned to this program's numbers: 40: error; 99: *errors.errorString; 101: errors.errorString; 97: *fmt.wrapError; 82: reflectlite's rtype.
-/
import Derived.Test.YbulkafkuFmtText
import Derived.LaidEql
import Derived.Stop.Asserts
import Derived.RowKitTokens
namespace Go.Proofs.YbulkafkuFmt
open Go.RowKit Go.Extern.Stop Go.Stop Go.Extern

theorem isTypeOf (v : Value) (w : World) : (Extern.ReflectliteType.typeOf #[.iface 99 v]).run Ybaf.prog w = .ok (.iface 82 (.agg #[.pointer (some ⟨7, 99, none⟩)])) w := by kernel_rfl
theorem call74 (w : World) : (callFunc 74 #[.agg #[.pointer (some ⟨7, 99, none⟩)]]).run Ybaf.prog w = .ok (.value (.bool true)) w := by kernel_rfl
theorem isComp : (Ybaf.prog.info? 99).map (·.comparable) = some true := by kernel_rfl
theorem isSize : (Ybaf.prog.info? 101).map (·.size) = some 1 := by kernel_rfl
theorem noIsW (v : Value) (xT : TypeId) (w : World) : (Instr.typeAssert (.iface 97 v) xT 84 true).run Ybaf.prog w = .ok (.tuple #[.nilIface, .bool false]) w := run_typeAssert_lacksB Ybaf.underlying84 (by kernel_rfl) (by kernel_rfl) v xT w
theorem hasUnwrapW (v : Value) (xT : TypeId) (w : World) : (Instr.typeAssert (.iface 97 v) xT 87 true).run Ybaf.prog w = .ok (.tuple #[.iface 97 v, .bool true]) w := run_typeAssert_hasB Ybaf.underlying87 (by kernel_rfl) v xT w
theorem isMethodComparable (v : Value) (w : World) : (Go.method 308 82 v "Comparable").run Ybaf.prog w = .ok (74, v) w := by kernel_rfl
theorem methodUnwrap (v : Value) (w : World) : (Go.method 308 97 v "Unwrap").run Ybaf.prog w = .ok (86, v) w := by kernel_rfl

set_option maxRecDepth 100000 in
set_option maxHeartbeats 1000000 in
/-- errors.Is(e, x), e a *fmt.wrapError that wraps x itself: one Unwrap, then equal. -/
theorem is_wrap_same (pb po : Nat) (b : Addr) (w : World) (h1 : w.cell? ⟨pb, po + 1, none⟩ = some (.iface 99 (.pointer (some b)))) :
    Calls Ybaf.prog 8 #[.iface 97 (.pointer (some ⟨pb, po, none⟩)), .iface 99 (.pointer (some b))] w fun e w' => e = .returned (.bool true) ∧ w' = w := by
  obtain ⟨i, hi, hcmp⟩ := Option.map_eq_some_iff.1 isComp
  obtain ⟨j, hj, hjs⟩ := Option.map_eq_some_iff.1 isSize
  have h8 := @run_callFunc_extern Ybaf.prog 14 _ Extern.ReflectliteType.typeOf Ybaf.func14 (by kernel_rfl) (by kernel_rfl) (by kernel_rfl) (by kernel_rfl)
  have h74 := call74
  have tT := isTypeOf
  have mR := isMethodComparable
  have nW := noIsW
  have uW := hasUnwrapW
  have mU := methodUnwrap
  have heq := run_eql_iface_ptr_same (P := Ybaf.prog) w b Ybaf.underlying40 Ybaf.underlying99 hi hcmp hj
  have hty := run_eql_iface_types (P := Ybaf.prog) 97 99 (.pointer (some ⟨pb, po, none⟩)) (.pointer (some b)) Ybaf.underlying40 (by decide) w
  go_enter Ybaf.func8, Ybaf.ntmps8
  go_wp2
  refine wp_loop_rounds 2 ?_
  rw [rounds_succ]
  go_wp2
  rw [rounds_succ]
  go_wp2
  go_ret
  exact ⟨rfl, rfl⟩
end Go.Proofs.YbulkafkuFmt
