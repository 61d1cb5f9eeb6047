import Derived.Test.YbulkagkqFmtChecked
import Derived.WalkKit
import Derived.LaidEql
import Derived.Stop.Asserts
import Derived.RowKitTokens
namespace Go.Proofs.YbulkagkqFmt
open Go.RowKit Go.Extern.Stop Go.Stop Go.Extern

/-! errors.Is by its contracts, after the guide's SentryIs.lean, at this dump's numbers. -/
theorem Ybaf.isTypeOf (v : Value) (w : World) : (Extern.ReflectliteType.typeOf #[.iface 104 v]).run Ybaf.prog w = .ok (.iface 83 (.agg #[.pointer (some ⟨2, 104, none⟩)])) w := by kernel_rfl
/-- the model's entry for (rtype).Comparable -/
def cmpExt : Array Value → Sem Value := Extern.ReflectliteType.method fun t => do Go.Extern.Rtype.noPackHeld "Comparable" t; pure (.bool (← typeInfo t).comparable)
theorem Ybaf.isComparable (w : World) : (cmpExt #[.agg #[.pointer (some ⟨2, 104, none⟩)]]).run Ybaf.prog w = .ok (.bool true) w := by kernel_rfl
theorem Ybaf.isMethodComparable (v : Value) (w : World) : (Go.method 301 83 v "Comparable").run Ybaf.prog w = .ok (74, v) w := by kernel_rfl
theorem Ybaf.methodUnwrap (v : Value) (w : World) : (Go.method 301 98 v "Unwrap").run Ybaf.prog w = .ok (88, v) w := by kernel_rfl
theorem Ybaf.isComp : (Ybaf.prog.info? 104).map (·.comparable) = some true := by kernel_rfl
theorem Ybaf.isSize : (Ybaf.prog.info? 106).map (·.size) = some 1 := by kernel_rfl
theorem Ybaf.noIsW (v : Value) (xT : TypeId) (w : World) : (Instr.typeAssert (.iface 98 v) xT 85 true).run Ybaf.prog w = .ok (.tuple #[.nilIface, .bool false]) w := run_typeAssert_lacksB Ybaf.underlying85 (by kernel_rfl) (by kernel_rfl) v xT w
theorem Ybaf.hasUnwrapW (v : Value) (xT : TypeId) (w : World) : (Instr.typeAssert (.iface 98 v) xT 88 true).run Ybaf.prog w = .ok (.tuple #[.iface 98 v, .bool true]) w := run_typeAssert_hasB Ybaf.underlying88 (by kernel_rfl) v xT w

set_option maxRecDepth 100000 in
theorem is_same (a : Addr) (w : World) :
    Calls Ybaf.prog 7 #[.iface 104 (.pointer (some a)), .iface 104 (.pointer (some a))] w fun e w' => e = .returned (.bool true) ∧ w' = w := by
  obtain ⟨i, hi, hcmp⟩ := Option.map_eq_some_iff.1 Ybaf.isComp
  obtain ⟨j, hj, hjs⟩ := Option.map_eq_some_iff.1 Ybaf.isSize
  have h14 := @run_callFunc_extern Ybaf.prog 14 _ Extern.ReflectliteType.typeOf Ybaf.func14 (by kernel_rfl) (by kernel_rfl) (by kernel_rfl) (by kernel_rfl)
  have h74 := @run_callFunc_extern Ybaf.prog 74 _ cmpExt Ybaf.func74 (by kernel_rfl) (by kernel_rfl) (by kernel_rfl) (by kernel_rfl)
  have tT := Ybaf.isTypeOf
  have cT := Ybaf.isComparable
  have mR := Ybaf.isMethodComparable
  have heq := run_eql_iface_ptr_same (P := Ybaf.prog) w a Ybaf.underlying51 Ybaf.underlying104 hi hcmp hj
  go_enter Ybaf.func7, Ybaf.ntmps7
  go_wp2
  refine wp_loop_rounds 1 ?_
  rw [rounds_succ]
  go_wp2
  go_ret
  exact ⟨rfl, rfl⟩

set_option maxRecDepth 100000 in
/-- errors.Is(e, x), e a *fmt.wrapError that wraps x itself: one Unwrap, then equal. -/
theorem is_wrap_same (pb po : Nat) (b : Addr) (w : World) (h1 : w.cell? ⟨pb, po + 1, none⟩ = some (.iface 104 (.pointer (some b)))) :
    Calls Ybaf.prog 7 #[.iface 98 (.pointer (some ⟨pb, po, none⟩)), .iface 104 (.pointer (some b))] w fun e w' => e = .returned (.bool true) ∧ w' = w := by
  obtain ⟨i, hi, hcmp⟩ := Option.map_eq_some_iff.1 Ybaf.isComp
  obtain ⟨j, hj, hjs⟩ := Option.map_eq_some_iff.1 Ybaf.isSize
  have h14 := @run_callFunc_extern Ybaf.prog 14 _ Extern.ReflectliteType.typeOf Ybaf.func14 (by kernel_rfl) (by kernel_rfl) (by kernel_rfl) (by kernel_rfl)
  have h74 := @run_callFunc_extern Ybaf.prog 74 _ cmpExt Ybaf.func74 (by kernel_rfl) (by kernel_rfl) (by kernel_rfl) (by kernel_rfl)
  have tT := Ybaf.isTypeOf
  have cT := Ybaf.isComparable
  have mR := Ybaf.isMethodComparable
  have nW := Ybaf.noIsW
  have uW := Ybaf.hasUnwrapW
  have mU := Ybaf.methodUnwrap
  have heq := run_eql_iface_ptr_same (P := Ybaf.prog) w b Ybaf.underlying51 Ybaf.underlying104 hi hcmp hj
  have hty := run_eql_iface_types (P := Ybaf.prog) 98 104 (.pointer (some ⟨pb, po, none⟩)) (.pointer (some b)) Ybaf.underlying51 (by decide) w
  go_enter Ybaf.func7, Ybaf.ntmps7
  go_wp2
  refine wp_loop_rounds 2 ?_
  rw [rounds_succ]
  go_wp2
  rw [rounds_succ]
  go_wp2
  go_ret
  exact ⟨rfl, rfl⟩
end Go.Proofs.YbulkagkqFmt
