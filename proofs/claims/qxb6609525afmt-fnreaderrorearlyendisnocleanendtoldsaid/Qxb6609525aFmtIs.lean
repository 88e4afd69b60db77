/-
  errors.Is BY ITS CONTRACTS over this program (after the guide's worked Sentry): the sentinel itself; a *fmt.wrapError that wraps the target; one that wraps another sentinel.
-/
import Derived.Test.Qxb6609525aFmtChecked
import Derived.WalkKit
import Derived.LaidEql
import Derived.Stop.Asserts
import Derived.RowKitTokens
namespace Go.Proofs.Qxb6609525aFmt
open Go.RowKit Go.Extern.Stop Go.Stop Go.Extern

theorem isTypeOf (v : Value) (w : World) : (Extern.ReflectliteType.typeOf #[.iface 49 v]).run Tryf.prog w = .ok (.iface 61 (.agg #[.pointer (some ⟨3, 49, none⟩)])) w := by kernel_rfl
theorem isTypeOfCall (v : Value) (w : World) : (callFunc 14 #[.iface 49 v]).run Tryf.prog w = .ok (.value (.iface 61 (.agg #[.pointer (some ⟨3, 49, none⟩)]))) w := by
  rw [@run_callFunc_extern Tryf.prog 14 _ Extern.ReflectliteType.typeOf Tryf.func14 (by kernel_rfl) (by kernel_rfl) (by kernel_rfl) (by kernel_rfl), isTypeOf]
  rfl
theorem isComparable (w : World) : (callFunc 45 #[.agg #[.pointer (some ⟨3, 49, none⟩)]]).run Tryf.prog w = .ok (.value (.bool true)) w := by kernel_rfl
theorem isMethodComparable (v : Value) (w : World) : (Go.method 244 61 v "Comparable").run Tryf.prog w = .ok (45, v) w := by kernel_rfl
theorem isComp : (Tryf.prog.info? 49).map (·.comparable) = some true := by kernel_rfl
theorem isSize : (Tryf.prog.info? 51).map (·.size) = some 1 := by kernel_rfl

theorem noIsE (v : Value) (xT : TypeId) (w : World) : (Instr.typeAssert (.iface 49 v) xT 63 true).run Tryf.prog w = .ok (.tuple #[.nilIface, .bool false]) w := run_typeAssert_lacksB Tryf.underlying63 (by kernel_rfl) (by kernel_rfl) v xT w
theorem noUnwrapE (v : Value) (xT : TypeId) (w : World) : (Instr.typeAssert (.iface 49 v) xT 66 true).run Tryf.prog w = .ok (.tuple #[.nilIface, .bool false]) w := run_typeAssert_lacksB Tryf.underlying66 (by kernel_rfl) (by kernel_rfl) v xT w
theorem noUnwrapsE (v : Value) (xT : TypeId) (w : World) : (Instr.typeAssert (.iface 49 v) xT 68 true).run Tryf.prog w = .ok (.tuple #[.nilIface, .bool false]) w := run_typeAssert_lacksB Tryf.underlying68 (by kernel_rfl) (by kernel_rfl) v xT w
theorem noIsW (v : Value) (xT : TypeId) (w : World) : (Instr.typeAssert (.iface 59 v) xT 63 true).run Tryf.prog w = .ok (.tuple #[.nilIface, .bool false]) w := run_typeAssert_lacksB Tryf.underlying63 (by kernel_rfl) (by kernel_rfl) v xT w
theorem hasUnwrapW (v : Value) (xT : TypeId) (w : World) : (Instr.typeAssert (.iface 59 v) xT 66 true).run Tryf.prog w = .ok (.tuple #[.iface 59 v, .bool true]) w := run_typeAssert_hasB Tryf.underlying66 (by kernel_rfl) v xT w
theorem methodUnwrap (v : Value) (w : World) : (Go.method 244 59 v "Unwrap").run Tryf.prog w = .ok (41, v) w := by kernel_rfl

set_option maxRecDepth 100000 in
set_option maxHeartbeats 1000000 in
/-- errors.Is(x, x), x a pointer to an errors.errorString. -/
theorem is_same (a : Addr) (w : World) :
    Calls Tryf.prog 12 #[.iface 49 (.pointer (some a)), .iface 49 (.pointer (some a))] w fun e w' => e = .returned (.bool true) ∧ w' = w := by
  obtain ⟨i, hi, hcmp⟩ := Option.map_eq_some_iff.1 isComp
  obtain ⟨j, hj, hjs⟩ := Option.map_eq_some_iff.1 isSize
  have tT := isTypeOfCall
  have cT := isComparable
  have mR := isMethodComparable
  have heq := run_eql_iface_ptr_same (P := Tryf.prog) w a Tryf.underlying29 Tryf.underlying49 hi hcmp hj
  go_enter Tryf.func12, Tryf.ntmps12
  go_wp2
  refine wp_loop_rounds 1 ?_
  rw [rounds_succ]
  go_wp2
  go_ret
  exact ⟨rfl, rfl⟩

set_option maxRecDepth 100000 in
set_option maxHeartbeats 1000000 in
/-- errors.Is(e, x), e a *fmt.wrapError that wraps x itself: one Unwrap, then equal. -/
theorem is_wrap_same (pb po : Nat) (b : Addr) (w : World) (h1 : w.cell? ⟨pb, po + 1, none⟩ = some (.iface 49 (.pointer (some b)))) :
    Calls Tryf.prog 12 #[.iface 59 (.pointer (some ⟨pb, po, none⟩)), .iface 49 (.pointer (some b))] w fun e w' => e = .returned (.bool true) ∧ w' = w := by
  obtain ⟨i, hi, hcmp⟩ := Option.map_eq_some_iff.1 isComp
  obtain ⟨j, hj, hjs⟩ := Option.map_eq_some_iff.1 isSize
  have tT := isTypeOfCall
  have cT := isComparable
  have mR := isMethodComparable
  have nE := noIsE
  have uE := noUnwrapE
  have vE := noUnwrapsE
  have nW := noIsW
  have uW := hasUnwrapW
  have mU := methodUnwrap
  have heq := run_eql_iface_ptr_same (P := Tryf.prog) w b Tryf.underlying29 Tryf.underlying49 hi hcmp hj
  have hty := run_eql_iface_types (P := Tryf.prog) 59 49 (.pointer (some ⟨pb, po, none⟩)) (.pointer (some b)) Tryf.underlying29 (by decide) w
  go_enter Tryf.func12, Tryf.ntmps12
  go_wp2
  refine wp_loop_rounds 2 ?_
  rw [rounds_succ]
  go_wp2
  rw [rounds_succ]
  go_wp2
  go_ret
  exact ⟨rfl, rfl⟩

set_option maxRecDepth 100000 in
set_option maxHeartbeats 1000000 in
/-- errors.Is(e, x), e a *fmt.wrapError that wraps another error of errors.New's make. -/
theorem is_wrap_other (pb po : Nat) (b a : Addr) (ca cb : Array Value) (ta tb : TypeId) (w : World) (h1 : w.cell? ⟨pb, po + 1, none⟩ = some (.iface 49 (.pointer (some a)))) (hne : a ≠ b) (ha : w.heap[a.block]? = some (.cells ca ta (0, 0))) (hb : w.heap[b.block]? = some (.cells cb tb (0, 0))) :
    Calls Tryf.prog 12 #[.iface 59 (.pointer (some ⟨pb, po, none⟩)), .iface 49 (.pointer (some b))] w fun e w' => e = .returned (.bool false) ∧ w' = w := by
  obtain ⟨i, hi, hcmp⟩ := Option.map_eq_some_iff.1 isComp
  obtain ⟨j, hj, hjs⟩ := Option.map_eq_some_iff.1 isSize
  have tT := isTypeOfCall
  have cT := isComparable
  have mR := isMethodComparable
  have nE := noIsE
  have uE := noUnwrapE
  have vE := noUnwrapsE
  have nW := noIsW
  have uW := hasUnwrapW
  have mU := methodUnwrap
  have heq := run_eql_iface_ptr_other (P := Tryf.prog) w Tryf.underlying29 Tryf.underlying49 hi hcmp hj (by rw [hjs]; decide) hne ha hb
  have hty := run_eql_iface_types (P := Tryf.prog) 59 49 (.pointer (some ⟨pb, po, none⟩)) (.pointer (some b)) Tryf.underlying29 (by decide) w
  go_enter Tryf.func12, Tryf.ntmps12
  go_wp2
  refine wp_loop_rounds 2 ?_
  rw [rounds_succ]
  go_wp2
  rw [rounds_succ]
  go_wp2
  go_ret
  exact ⟨rfl, rfl⟩

end Go.Proofs.Qxb6609525aFmt
