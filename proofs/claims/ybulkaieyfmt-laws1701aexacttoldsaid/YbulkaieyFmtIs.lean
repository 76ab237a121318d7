import Derived.Test.YbulkaieyFmtRows
import Derived.WalkKit
import Derived.LaidEql
import Derived.Stop.Asserts
import Derived.RowKitTokens
namespace Go.Proofs.YbulkaieyFmt
open Go.RowKit Go.Extern.Stop Go.Stop Go.Extern

theorem Ybaf.call16 (v : Value) (w : World) : (callFunc 16 #[.iface 99 v]).run Ybaf.prog w = .ok (.value (.iface 86 (.agg #[.pointer (some ⟨1, 99, none⟩)]))) w := by
  have h := @run_callFunc_extern Ybaf.prog 16 _ Extern.ReflectliteType.typeOf Ybaf.func16 (by kernel_rfl) (by kernel_rfl) (by kernel_rfl) (by kernel_rfl) #[.iface 99 v] w
  have e : (Extern.ReflectliteType.typeOf #[.iface 99 v]).run Ybaf.prog w = .ok (.iface 86 (.agg #[.pointer (some ⟨1, 99, none⟩)])) w := by kernel_rfl
  rw [h, e]; rfl
theorem Ybaf.call42 (w : World) : (callFunc 42 #[.agg #[.pointer (some ⟨1, 99, none⟩)]]).run Ybaf.prog w = .ok (.value (.bool true)) w := by
  have h := @run_callFunc_extern Ybaf.prog 42 _ (Extern.ReflectliteType.method fun t => do Extern.Rtype.noPackHeld "Comparable" t; pure (.bool (← typeInfo t).comparable)) Ybaf.func42 (by kernel_rfl) (by kernel_rfl) (by kernel_rfl) (by kernel_rfl) #[.agg #[.pointer (some ⟨1, 99, none⟩)]] w
  have e : ((Extern.ReflectliteType.method fun t => do Extern.Rtype.noPackHeld "Comparable" t; pure (.bool (← typeInfo t).comparable)) #[.agg #[.pointer (some ⟨1, 99, none⟩)]]).run Ybaf.prog w = .ok (.bool true) w := by kernel_rfl
  rw [h, e]; rfl
theorem Ybaf.isMethodComparable (v : Value) (w : World) : (Go.method 268 86 v "Comparable").run Ybaf.prog w = .ok (42, v) w := by kernel_rfl
theorem Ybaf.isComp : (Ybaf.prog.info? 99).map (·.comparable) = some true := by kernel_rfl
theorem Ybaf.isSize : (Ybaf.prog.info? 101).map (·.size) = some 1 := by kernel_rfl
theorem Ybaf.noIsW (v : Value) (xT : TypeId) (w : World) : (Instr.typeAssert (.iface 98 v) xT 88 true).run Ybaf.prog w = .ok (.tuple #[.nilIface, .bool false]) w := run_typeAssert_lacksB Ybaf.underlying88 (by kernel_rfl) (by kernel_rfl) v xT w
theorem Ybaf.hasUnwrapW (v : Value) (xT : TypeId) (w : World) : (Instr.typeAssert (.iface 98 v) xT 91 true).run Ybaf.prog w = .ok (.tuple #[.iface 98 v, .bool true]) w := run_typeAssert_hasB Ybaf.underlying91 (by kernel_rfl) v xT w
theorem Ybaf.methodUnwrap (v : Value) (w : World) : (Go.method 268 98 v "Unwrap").run Ybaf.prog w = .ok (52, v) w := by kernel_rfl

set_option maxRecDepth 100000 in
set_option maxHeartbeats 2000000 in
/-- errors.Is(e, x), e a *fmt.wrapError that wraps x itself: one Unwrap, then equal. -/
theorem is_wrap_same (pb po : Nat) (b : Addr) (w : World) (h1 : w.cell? ⟨pb, po + 1, none⟩ = some (.iface 99 (.pointer (some b)))) :
    Calls Ybaf.prog 7 #[.iface 98 (.pointer (some ⟨pb, po, none⟩)), .iface 99 (.pointer (some b))] w fun e w' => e = .returned (.bool true) ∧ w' = w := by
  obtain ⟨i, hi, hcmp⟩ := Option.map_eq_some_iff.1 Ybaf.isComp
  obtain ⟨j, hj, hjs⟩ := Option.map_eq_some_iff.1 Ybaf.isSize
  have tT := Ybaf.call16
  have cT := Ybaf.call42
  have mR := Ybaf.isMethodComparable
  have nW := Ybaf.noIsW
  have uW := Ybaf.hasUnwrapW
  have mU := Ybaf.methodUnwrap
  have heq := run_eql_iface_ptr_same (P := Ybaf.prog) w b Ybaf.underlying25 Ybaf.underlying99 hi hcmp hj
  have hty := run_eql_iface_types (P := Ybaf.prog) 98 99 (.pointer (some ⟨pb, po, none⟩)) (.pointer (some b)) Ybaf.underlying25 (by decide) w
  go_enter Ybaf.func7, Ybaf.ntmps7
  go_wp2
  refine wp_loop_rounds 2 ?_
  rw [rounds_succ]
  go_wp2
  rw [rounds_succ]
  go_wp2
  go_ret
  exact ⟨rfl, rfl⟩
end Go.Proofs.YbulkaieyFmt
