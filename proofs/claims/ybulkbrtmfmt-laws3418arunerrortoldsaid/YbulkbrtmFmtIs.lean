import Derived.Test.YbulkbrtmFmtErr
import Derived.LaidEql
import Derived.Stop.Asserts
import Derived.RowKitTokens
set_option linter.unusedVariables false
set_option linter.unusedSimpArgs false
set_option maxHeartbeats 4000000
set_option maxRecDepth 1000000
namespace Go.Proofs.YbulkbrtmFmt
open Go.RowKit Go.Proofs Go.Extern.Stop Go.Stop Go.Extern

theorem isTypeOf (v : Value) (w : World) : (Extern.ReflectliteType.typeOf #[.iface 73 v]).run Ybaf.prog w = .ok (.iface 103 (.agg #[.pointer (some ⟨1, 73, none⟩)])) w := by kernel_rfl
theorem callComparable (w : World) : (callFunc 81 #[.agg #[.pointer (some ⟨1, 73, none⟩)]]).run Ybaf.prog w = .ok (.value (.bool true)) w := by kernel_rfl
theorem isMethodComparable (v : Value) (w : World) : (Go.method 270 103 v "Comparable").run Ybaf.prog w = .ok (81, v) w := by kernel_rfl
theorem isComp : (Ybaf.prog.info? 73).map (·.comparable) = some true := by kernel_rfl
theorem isSize : (Ybaf.prog.info? 75).map (·.size) = some 1 := by kernel_rfl
theorem noIsW (v : Value) (xT : TypeId) (w : World) : (Instr.typeAssert (.iface 99 v) xT 105 true).run Ybaf.prog w = .ok (.tuple #[.nilIface, .bool false]) w := run_typeAssert_lacksB Ybaf.underlying105 (by kernel_rfl) (by kernel_rfl) v xT w
theorem hasUnwrapW (v : Value) (xT : TypeId) (w : World) : (Instr.typeAssert (.iface 99 v) xT 108 true).run Ybaf.prog w = .ok (.tuple #[.iface 99 v, .bool true]) w := run_typeAssert_hasB Ybaf.underlying108 (by kernel_rfl) v xT w
theorem methodUnwrap (v : Value) (w : World) : (Go.method 270 99 v "Unwrap").run Ybaf.prog w = .ok (77, v) w := by kernel_rfl

theorem is_wrap (pb b : Nat) (w : World) (h1 : w.cell? ⟨pb, 1, none⟩ = some (.iface 73 (.pointer (some ⟨b, 0, none⟩)))) :
    Calls Ybaf.prog 12 #[.iface 99 (.pointer (some ⟨pb, 0, none⟩)), .iface 73 (.pointer (some ⟨b, 0, none⟩))] w fun e w' => e = .returned (.bool true) ∧ w' = w := by
  obtain ⟨i, hi, hcmp⟩ := Option.map_eq_some_iff.1 isComp
  obtain ⟨j, hj, hjs⟩ := Option.map_eq_some_iff.1 isSize
  have h8 := @run_callFunc_extern Ybaf.prog 22 _ Extern.ReflectliteType.typeOf Ybaf.func22 (by kernel_rfl) (by kernel_rfl) (by kernel_rfl) (by kernel_rfl)
  have h32 := callComparable
  have tT := isTypeOf
  have mR := isMethodComparable
  have nW := noIsW
  have uW := hasUnwrapW
  have mU := methodUnwrap
  have heq := run_eql_iface_ptr_same (P := Ybaf.prog) w ⟨b, 0, none⟩ Ybaf.underlying35 Ybaf.underlying73 hi hcmp hj
  have hty := run_eql_iface_types (P := Ybaf.prog) 99 73 (.pointer (some ⟨pb, 0, none⟩)) (.pointer (some ⟨b, 0, none⟩)) Ybaf.underlying35 (by decide) w
  go_enter Ybaf.func12, Ybaf.ntmps12
  go_wp2
  refine wp_loop_rounds 2 ?_
  rw [rounds_succ]
  go_wp2
  rw [rounds_succ]
  go_wp2
  go_ret
  exact ⟨rfl, rfl⟩
end Go.Proofs.YbulkbrtmFmt
