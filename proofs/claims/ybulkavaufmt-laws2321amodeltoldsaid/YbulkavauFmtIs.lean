/-
  errors.Is at an error that wraps, twice over, the sentinel it is asked for: after the kit's own text for a single wrap, at this dump's numbers.
-/
import Derived.Test.YbulkavauFmtRows
import Derived.WalkKit
import Derived.LaidEql
import Derived.Stop.Asserts
import Derived.RowKitTokens
namespace Go.Proofs.YbulkavauFmt
open Go Go.RowKit Go.Extern.Stop Go.Stop Go.Extern

theorem isTypeOf (v : Value) (w : World) : (Extern.ReflectliteType.typeOf #[.iface 65 v]).run Ybaf.prog w = .ok (.iface 53 (.agg #[.pointer (some ⟨2, 65, none⟩)])) w := by kernel_rfl
theorem callComparable (w : World) : (callFunc 45 #[.agg #[.pointer (some ⟨2, 65, none⟩)]]).run Ybaf.prog w = .ok (.value (.bool true)) w := by
  rw [@run_callFunc_extern Ybaf.prog 45 _ (Extern.ReflectliteType.method fun t => do Extern.Rtype.noPackHeld "Comparable" t; pure (.bool (← typeInfo t).comparable)) Ybaf.func45 (by kernel_rfl) (by kernel_rfl) (by kernel_rfl) (by kernel_rfl)]
  kernel_rfl
theorem isMethodComparable (v : Value) (w : World) : (Go.method 208 53 v "Comparable").run Ybaf.prog w = .ok (45, v) w := by kernel_rfl
theorem methodUnwrap (v : Value) (w : World) : (Go.method 208 51 v "Unwrap").run Ybaf.prog w = .ok (41, v) w := by kernel_rfl
theorem isComp : (Ybaf.prog.info? 65).map (·.comparable) = some true := by kernel_rfl
theorem isSize : (Ybaf.prog.info? 67).map (·.size) = some 1 := by kernel_rfl
theorem noIsE (v : Value) (xT : TypeId) (w : World) : (Instr.typeAssert (.iface 65 v) xT 55 true).run Ybaf.prog w = .ok (.tuple #[.nilIface, .bool false]) w := run_typeAssert_lacksB Ybaf.underlying55 (by kernel_rfl) (by kernel_rfl) v xT w
theorem noIsW (v : Value) (xT : TypeId) (w : World) : (Instr.typeAssert (.iface 51 v) xT 55 true).run Ybaf.prog w = .ok (.tuple #[.nilIface, .bool false]) w := run_typeAssert_lacksB Ybaf.underlying55 (by kernel_rfl) (by kernel_rfl) v xT w
theorem hasUnwrapW (v : Value) (xT : TypeId) (w : World) : (Instr.typeAssert (.iface 51 v) xT 58 true).run Ybaf.prog w = .ok (.tuple #[.iface 51 v, .bool true]) w := run_typeAssert_hasB Ybaf.underlying58 (by kernel_rfl) v xT w

theorem is_wrap2 (pb qb : Nat) (b : Addr) (w : World) (h1 : w.cell? ⟨pb, 0 + 1, none⟩ = some (.iface 51 (.pointer (some ⟨qb, 0, none⟩)))) (h2 : w.cell? ⟨qb, 0 + 1, none⟩ = some (.iface 65 (.pointer (some b)))) :
    Calls Ybaf.prog 7 #[.iface 51 (.pointer (some ⟨pb, 0, none⟩)), .iface 65 (.pointer (some b))] w fun e w' => e = .returned (.bool true) ∧ w' = w := by
  obtain ⟨i, hi, hcmp⟩ := Option.map_eq_some_iff.1 isComp
  obtain ⟨j, hj, hjs⟩ := Option.map_eq_some_iff.1 isSize
  have h8 := @run_callFunc_extern Ybaf.prog 11 _ Extern.ReflectliteType.typeOf Ybaf.func11 (by kernel_rfl) (by kernel_rfl) (by kernel_rfl) (by kernel_rfl)
  have h32 := callComparable
  have tT := isTypeOf
  have mR := isMethodComparable
  have mU := methodUnwrap
  have nE := noIsE
  have nW := noIsW
  have uW := hasUnwrapW
  have heq := run_eql_iface_ptr_same (P := Ybaf.prog) w b Ybaf.underlying32 Ybaf.underlying65 hi hcmp hj
  have hty := run_eql_iface_types (P := Ybaf.prog) 51 65 (.pointer (some ⟨pb, 0, none⟩)) (.pointer (some b)) Ybaf.underlying32 (by decide) w
  have hty2 := run_eql_iface_types (P := Ybaf.prog) 51 65 (.pointer (some ⟨qb, 0, none⟩)) (.pointer (some b)) Ybaf.underlying32 (by decide) w
  go_enter Ybaf.func7, Ybaf.ntmps7
  go_wp2
  refine wp_loop_rounds 3 ?_
  rw [rounds_succ]
  go_wp2
  rw [rounds_succ]
  go_wp2
  rw [rounds_succ]
  go_wp2
  go_ret
  exact ⟨rfl, rfl⟩

end Go.Proofs.YbulkavauFmt
