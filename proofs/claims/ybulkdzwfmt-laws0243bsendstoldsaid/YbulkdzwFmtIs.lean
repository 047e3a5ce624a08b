import Derived.Test.YbulkdzwFmtRows
import Derived.WalkKit
import Derived.WalkSpells
import Derived.WalkLawsBesides
import Derived.Outline
import Derived.LaidEql
import Derived.Stop.Asserts
import Derived.RowKitTokens
set_option linter.unusedVariables false
namespace Go.Proofs.YbulkdzwFmt
open Go.RowKit Go.Extern.Stop Go.Stop Go.Extern

theorem hide {p : Prop} (h : p) : Hid p := h

theorem callTypeOf (v : Value) (w : World) : (callFunc 9 #[.iface 62 v]).run Ybaf.prog w = .ok (.value (.iface 74 (.agg #[.pointer (some ⟨0, 62, none⟩)]))) w := by kernel_rfl
theorem callComparable (w : World) : (callFunc 39 #[.agg #[.pointer (some ⟨0, 62, none⟩)]]).run Ybaf.prog w = .ok (.value (.bool true)) w := by kernel_rfl
theorem methodComparable (v : Value) (w : World) : (Go.method 229 74 v "Comparable").run Ybaf.prog w = .ok (39, v) w := by kernel_rfl
theorem methodUnwrap (v : Value) (w : World) : (Go.method 229 85 v "Unwrap").run Ybaf.prog w = .ok (49, v) w := by kernel_rfl
theorem isComp : (Ybaf.prog.info? 62).map (·.comparable) = some true := by kernel_rfl
theorem isSize : (Ybaf.prog.info? 64).map (·.size) = some 1 := by kernel_rfl
theorem noIsW (v : Value) (xT : TypeId) (w : World) : (Instr.typeAssert (.iface 85 v) xT 76 true).run Ybaf.prog w = .ok (.tuple #[.nilIface, .bool false]) w := run_typeAssert_lacksB Ybaf.underlying76 (by kernel_rfl) (by kernel_rfl) v xT w
theorem hasUnwrapW (v : Value) (xT : TypeId) (w : World) : (Instr.typeAssert (.iface 85 v) xT 79 true).run Ybaf.prog w = .ok (.tuple #[.iface 85 v, .bool true]) w := run_typeAssert_hasB Ybaf.underlying79 (by kernel_rfl) v xT w

set_option maxRecDepth 100000 in
/-- errors.Is(e, x), e a *fmt.wrapError that wraps x itself: one Unwrap, then equal. -/
theorem is_wrap_same (pb po : Nat) (b : Addr) (w : World) (h1 : w.cell? ⟨pb, po + 1, none⟩ = some (.iface 62 (.pointer (some b)))) :
    Calls Ybaf.prog 7 #[.iface 85 (.pointer (some ⟨pb, po, none⟩)), .iface 62 (.pointer (some b))] w fun e w' => e = .returned (.bool true) ∧ w = w' := by
  obtain ⟨i, hi, hcmp⟩ := Option.map_eq_some_iff.1 isComp
  obtain ⟨j, hj, hjs⟩ := Option.map_eq_some_iff.1 isSize
  have h8 := callTypeOf
  have h32 := callComparable
  have mR := methodComparable
  have mU := methodUnwrap
  have nW := noIsW
  have uW := hasUnwrapW
  have heq := run_eql_iface_ptr_same (P := Ybaf.prog) w b Ybaf.underlying26 Ybaf.underlying62 hi hcmp hj
  have hty := run_eql_iface_types (P := Ybaf.prog) 85 62 (.pointer (some ⟨pb, po, none⟩)) (.pointer (some b)) Ybaf.underlying26 (by decide) w
  go_enter Ybaf.func7, Ybaf.ntmps7
  go_wp2
  refine wp_loop_rounds 2 ?_
  rw [rounds_succ]
  go_wp2
  rw [rounds_succ]
  go_wp2
  go_ret
  exact ⟨rfl, rfl⟩
end Go.Proofs.YbulkdzwFmt
