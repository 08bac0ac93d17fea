/-
  errors.Is (function 6) at an error of fmt.Errorf's make that wraps the sentinel itself, by its contract (after the guide's SentryIs, at this dump's numbers).
-/
import Derived.Test.YbulkacgyFmtFacts
import Derived.Test.YbulkacgyFmtChecked
import Derived.LaidEql
import Derived.Stop.Asserts
import Derived.RowKitTokens
namespace Go.Proofs.YbulkacgyFmt
open Go.RowKit Go.Extern.Stop Go.Stop Go.Extern

theorem isTypeOf (v : Value) (w : World) : (Extern.ReflectliteType.typeOf #[.iface 56 v]).run Ybaf.prog w = .ok (.iface 43 (.agg #[.pointer (some ⟨1, 56, none⟩)])) w := by kernel_rfl
theorem callComparable (w : World) : (callFunc 33 #[.agg #[.pointer (some ⟨1, 56, none⟩)]]).run Ybaf.prog w = .ok (.value (.bool true)) w := by kernel_rfl
theorem isMethodComparable (v : Value) (w : World) : (Go.method 198 43 v "Comparable").run Ybaf.prog w = .ok (33, v) w := by kernel_rfl
theorem isComp : (Ybaf.prog.info? 56).map (·.comparable) = some true := by kernel_rfl
theorem isSize : (Ybaf.prog.info? 58).map (·.size) = some 1 := by kernel_rfl
theorem noIsE (v : Value) (xT : TypeId) (w : World) : (Instr.typeAssert (.iface 56 v) xT 45 true).run Ybaf.prog w = .ok (.tuple #[.nilIface, .bool false]) w := run_typeAssert_lacksB Ybaf.underlying45 (by kernel_rfl) (by kernel_rfl) v xT w
theorem noIsW (v : Value) (xT : TypeId) (w : World) : (Instr.typeAssert (.iface 55 v) xT 45 true).run Ybaf.prog w = .ok (.tuple #[.nilIface, .bool false]) w := run_typeAssert_lacksB Ybaf.underlying45 (by kernel_rfl) (by kernel_rfl) v xT w
theorem hasUnwrapW (v : Value) (xT : TypeId) (w : World) : (Instr.typeAssert (.iface 55 v) xT 48 true).run Ybaf.prog w = .ok (.tuple #[.iface 55 v, .bool true]) w := run_typeAssert_hasB Ybaf.underlying48 (by kernel_rfl) v xT w
theorem methodUnwrap (v : Value) (w : World) : (Go.method 198 55 v "Unwrap").run Ybaf.prog w = .ok (43, v) w := by kernel_rfl

set_option maxHeartbeats 1000000 in
set_option maxRecDepth 100000 in
theorem is_wrap_same (pb po : Nat) (b : Addr) (w : World) (h1 : w.cell? ⟨pb, po + 1, none⟩ = some (.iface 56 (.pointer (some b)))) :
    Calls Ybaf.prog 6 #[.iface 55 (.pointer (some ⟨pb, po, none⟩)), .iface 56 (.pointer (some b))] w fun e w' => e = .returned (.bool true) ∧ w' = w := by
  obtain ⟨i, hi, hcmp⟩ := Option.map_eq_some_iff.1 isComp
  obtain ⟨j, hj, hjs⟩ := Option.map_eq_some_iff.1 isSize
  have h8 := @run_callFunc_extern Ybaf.prog 9 _ Extern.ReflectliteType.typeOf Ybaf.func9 (by kernel_rfl) (by kernel_rfl) (by kernel_rfl) (by kernel_rfl)
  have tT := isTypeOf
  have cT := callComparable
  have mR := isMethodComparable
  have nW := noIsW
  have uW := hasUnwrapW
  have mU := methodUnwrap
  have heq := run_eql_iface_ptr_same (P := Ybaf.prog) w b Ybaf.underlying28 Ybaf.underlying56 hi hcmp hj
  have hty := run_eql_iface_types (P := Ybaf.prog) 55 56 (.pointer (some ⟨pb, po, none⟩)) (.pointer (some b)) Ybaf.underlying28 (by decide) w
  go_enter Ybaf.func6, Ybaf.ntmps6
  go_wp2
  refine wp_loop_rounds 2 ?_
  rw [rounds_succ]
  go_wp2
  rw [rounds_succ]
  go_wp2
  go_ret
  exact ⟨rfl, rfl⟩

end Go.Proofs.YbulkacgyFmt
