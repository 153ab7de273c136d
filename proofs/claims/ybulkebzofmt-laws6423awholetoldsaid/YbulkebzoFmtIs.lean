/-
  errors.Is by its contracts at this program: the worked text Derived/Test/SentryIs.lean of the kit, turned to this dump's numbers.
-/
import Derived.Test.YbulkebzoFmtRows
import Derived.WalkKit
import Derived.LaidEql
import Derived.Stop.Asserts
import Derived.RowKitTokens
namespace Go.Proofs.YbulkebzoFmt
open Go.RowKit Go.Extern.Stop Go.Stop Go.Extern
set_option maxRecDepth 100000
set_option linter.unusedVariables false
set_option linter.unusedSimpArgs false

/-! ### CLOSED FACTS: what 'reflectlite.TypeOf(target).Comparable()' gives at such a target -/
theorem Ybaf.isComparable (w : World) : (callFunc 43 #[.agg #[.pointer (some ⟨2, 39, none⟩)]]).run Ybaf.prog w = .ok (.value (.bool true)) w := by kernel_rfl
theorem Ybaf.isTypeOfCall (v : Value) (w : World) : (callFunc 14 #[.iface 39 v]).run Ybaf.prog w = .ok (.value (.iface 66 (.agg #[.pointer (some ⟨2, 39, none⟩)]))) w := by kernel_rfl
theorem Ybaf.isMethodComparable (v : Value) (w : World) : (Go.method 217 66 v "Comparable").run Ybaf.prog w = .ok (43, v) w := by kernel_rfl
theorem Ybaf.isComp : (Ybaf.prog.info? 39).map (·.comparable) = some true := by kernel_rfl
theorem Ybaf.isSize : (Ybaf.prog.info? 41).map (·.size) = some 1 := by kernel_rfl

/-! ### CLOSED FACTS ON THE METHOD SETS: what errors.is's assertions find -/
theorem Ybaf.noIsE (v : Value) (xT : TypeId) (w : World) : (Instr.typeAssert (.iface 39 v) xT 68 true).run Ybaf.prog w = .ok (.tuple #[.nilIface, .bool false]) w := run_typeAssert_lacksB Ybaf.underlying68 (by kernel_rfl) (by kernel_rfl) v xT w
theorem Ybaf.noUnwrapE (v : Value) (xT : TypeId) (w : World) : (Instr.typeAssert (.iface 39 v) xT 71 true).run Ybaf.prog w = .ok (.tuple #[.nilIface, .bool false]) w := run_typeAssert_lacksB Ybaf.underlying71 (by kernel_rfl) (by kernel_rfl) v xT w
theorem Ybaf.noUnwrapsE (v : Value) (xT : TypeId) (w : World) : (Instr.typeAssert (.iface 39 v) xT 73 true).run Ybaf.prog w = .ok (.tuple #[.nilIface, .bool false]) w := run_typeAssert_lacksB Ybaf.underlying73 (by kernel_rfl) (by kernel_rfl) v xT w
theorem Ybaf.noIsW (v : Value) (xT : TypeId) (w : World) : (Instr.typeAssert (.iface 63 v) xT 68 true).run Ybaf.prog w = .ok (.tuple #[.nilIface, .bool false]) w := run_typeAssert_lacksB Ybaf.underlying68 (by kernel_rfl) (by kernel_rfl) v xT w
theorem Ybaf.hasUnwrapW (v : Value) (xT : TypeId) (w : World) : (Instr.typeAssert (.iface 63 v) xT 71 true).run Ybaf.prog w = .ok (.tuple #[.iface 63 v, .bool true]) w := run_typeAssert_hasB Ybaf.underlying71 (by kernel_rfl) v xT w
theorem Ybaf.methodUnwrap (v : Value) (w : World) : (Go.method 217 63 v "Unwrap").run Ybaf.prog w = .ok (39, v) w := by kernel_rfl

/-- errors.Is(x, y), two different pointers to errors.errorString: neither has Is nor Unwrap: false. -/
theorem is_other (a b : Addr) (ca cb : Array Value) (ta tb : TypeId) (w : World) (hne : a ≠ b) (ha : w.heap[a.block]? = some (.cells ca ta (0, 0))) (hb : w.heap[b.block]? = some (.cells cb tb (0, 0))) :
    Calls Ybaf.prog 6 #[.iface 39 (.pointer (some a)), .iface 39 (.pointer (some b))] w fun e w' => e = .returned (.bool false) ∧ w' = w := by
  obtain ⟨i, hi, hcmp⟩ := Option.map_eq_some_iff.1 Ybaf.isComp
  obtain ⟨j, hj, hjs⟩ := Option.map_eq_some_iff.1 Ybaf.isSize
  have h8 := Ybaf.isTypeOfCall
  have cT := Ybaf.isComparable
  have mR := Ybaf.isMethodComparable
  have nE := Ybaf.noIsE
  have uE := Ybaf.noUnwrapE
  have vE := Ybaf.noUnwrapsE
  have nW := Ybaf.noIsW
  have uW := Ybaf.hasUnwrapW
  have mU := Ybaf.methodUnwrap
  have heq := run_eql_iface_ptr_other (P := Ybaf.prog) w Ybaf.underlying25 Ybaf.underlying39 hi hcmp hj (by rw [hjs]; decide) hne ha hb
  go_enter Ybaf.func6, Ybaf.ntmps6
  go_wp2
  refine wp_loop_rounds 1 ?_
  rw [rounds_succ]
  go_wp2
  go_ret
  exact ⟨rfl, rfl⟩

/-- errors.Is(e, x), e a *fmt.wrapError that wraps x itself: one Unwrap, then equal. -/
theorem is_wrap_same (pb po : Nat) (b : Addr) (w : World) (h1 : w.cell? ⟨pb, po + 1, none⟩ = some (.iface 39 (.pointer (some b)))) :
    Calls Ybaf.prog 6 #[.iface 63 (.pointer (some ⟨pb, po, none⟩)), .iface 39 (.pointer (some b))] w fun e w' => e = .returned (.bool true) ∧ w' = w := by
  obtain ⟨i, hi, hcmp⟩ := Option.map_eq_some_iff.1 Ybaf.isComp
  obtain ⟨j, hj, hjs⟩ := Option.map_eq_some_iff.1 Ybaf.isSize
  have h8 := Ybaf.isTypeOfCall
  have cT := Ybaf.isComparable
  have mR := Ybaf.isMethodComparable
  have nE := Ybaf.noIsE
  have uE := Ybaf.noUnwrapE
  have vE := Ybaf.noUnwrapsE
  have nW := Ybaf.noIsW
  have uW := Ybaf.hasUnwrapW
  have mU := Ybaf.methodUnwrap
  have heq := run_eql_iface_ptr_same (P := Ybaf.prog) w b Ybaf.underlying25 Ybaf.underlying39 hi hcmp hj
  have hty := run_eql_iface_types (P := Ybaf.prog) 63 39 (.pointer (some ⟨pb, po, none⟩)) (.pointer (some b)) Ybaf.underlying25 (by decide) w
  go_enter Ybaf.func6, Ybaf.ntmps6
  go_wp2
  refine wp_loop_rounds 2 ?_
  rw [rounds_succ]
  go_wp2
  rw [rounds_succ]
  go_wp2
  go_ret
  exact ⟨rfl, rfl⟩

end Go.Proofs.YbulkebzoFmt
