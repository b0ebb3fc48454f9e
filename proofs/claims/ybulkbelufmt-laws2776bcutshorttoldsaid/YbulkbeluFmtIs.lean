/-
  errors.Is BY ITS CONTRACTS at a sentinel of errors.New's make: the guide's worked SentryIs.lean turned to this dump's numbers.
  33: error, 79: *errors.errorString, 81: errors.errorString, 64: *fmt.wrapError, 66: reflectlite's rtype, 68, 49, 71: the three interfaces that errors.is asks for, 10 package-level variables. Functions: 6 errors.Is, 10 reflectlite.TypeOf, 62 (rtype).Comparable, 59 (*fmt.wrapError).Unwrap, 7 errors.Unwrap.
-/
import Derived.Test.YbulkbeluFmtChecked
import Derived.WalkKit
import Derived.LaidEql
import Derived.Stop.Asserts
import Derived.RowKitTokens
namespace Go.Proofs.YbulkbeluFmt
open Go.RowKit Go.Extern.Stop Go.Stop Go.Extern

theorem isTypeOf (v : Value) (w : World) : (Extern.ReflectliteType.typeOf #[.iface 79 v]).run Ybaf.prog w = .ok (.iface 66 (.agg #[.pointer (some ⟨10, 79, none⟩)])) w := by kernel_rfl
/-- The model's entry for (rtype).Comparable, under a name. -/
def compM : Array Value → Sem Value := Extern.ReflectliteType.method fun t => do Extern.Rtype.noPackHeld "Comparable" t; pure (.bool (← typeInfo t).comparable)
theorem isComparable (w : World) : (compM #[.agg #[.pointer (some ⟨10, 79, none⟩)]]).run Ybaf.prog w = .ok (.bool true) w := by kernel_rfl
theorem isMethodComparable (v : Value) (w : World) : (Go.method 280 66 v "Comparable").run Ybaf.prog w = .ok (62, v) w := by kernel_rfl
theorem isComp : (Ybaf.prog.info? 79).map (·.comparable) = some true := by kernel_rfl
theorem isSize : (Ybaf.prog.info? 81).map (·.size) = some 1 := by kernel_rfl

theorem noIsE (v : Value) (xT : TypeId) (w : World) : (Instr.typeAssert (.iface 79 v) xT 68 true).run Ybaf.prog w = .ok (.tuple #[.nilIface, .bool false]) w := run_typeAssert_lacksB Ybaf.underlying68 (by kernel_rfl) (by kernel_rfl) v xT w
theorem noUnwrapE (v : Value) (xT : TypeId) (w : World) : (Instr.typeAssert (.iface 79 v) xT 49 true).run Ybaf.prog w = .ok (.tuple #[.nilIface, .bool false]) w := run_typeAssert_lacksB Ybaf.underlying49 (by kernel_rfl) (by kernel_rfl) v xT w
theorem noUnwrapsE (v : Value) (xT : TypeId) (w : World) : (Instr.typeAssert (.iface 79 v) xT 71 true).run Ybaf.prog w = .ok (.tuple #[.nilIface, .bool false]) w := run_typeAssert_lacksB Ybaf.underlying71 (by kernel_rfl) (by kernel_rfl) v xT w
theorem noIsW (v : Value) (xT : TypeId) (w : World) : (Instr.typeAssert (.iface 64 v) xT 68 true).run Ybaf.prog w = .ok (.tuple #[.nilIface, .bool false]) w := run_typeAssert_lacksB Ybaf.underlying68 (by kernel_rfl) (by kernel_rfl) v xT w
theorem hasUnwrapW (v : Value) (xT : TypeId) (w : World) : (Instr.typeAssert (.iface 64 v) xT 49 true).run Ybaf.prog w = .ok (.tuple #[.iface 64 v, .bool true]) w := run_typeAssert_hasB Ybaf.underlying49 (by kernel_rfl) v xT w
theorem methodUnwrap (v : Value) (w : World) : (Go.method 280 64 v "Unwrap").run Ybaf.prog w = .ok (59, v) w := by kernel_rfl

/-- errors.Is(e, x), e a *fmt.wrapError that wraps x itself: one Unwrap, then equal. -/
theorem is_wrap_same (pb po : Nat) (b : Addr) (w : World) (h1 : w.cell? ⟨pb, po + 1, none⟩ = some (.iface 79 (.pointer (some b)))) :
    Calls Ybaf.prog 6 #[.iface 64 (.pointer (some ⟨pb, po, none⟩)), .iface 79 (.pointer (some b))] w fun e w' => e = .returned (.bool true) ∧ w' = w := by
  obtain ⟨i, hi, hcmp⟩ := Option.map_eq_some_iff.1 isComp
  obtain ⟨j, hj, hjs⟩ := Option.map_eq_some_iff.1 isSize
  have h8 := @run_callFunc_extern Ybaf.prog 10 _ Extern.ReflectliteType.typeOf Ybaf.func10 (by kernel_rfl) (by kernel_rfl) (by kernel_rfl) (by kernel_rfl)
  have h32 := @run_callFunc_extern Ybaf.prog 62 _ compM Ybaf.func62 (by kernel_rfl) (by kernel_rfl) (by kernel_rfl) (by kernel_rfl)
  have tT := isTypeOf
  have cT := isComparable
  have mR := isMethodComparable
  have nE := noIsE
  have uE := noUnwrapE
  have vE := noUnwrapsE
  have nW := noIsW
  have uW := hasUnwrapW
  have mU := methodUnwrap
  have heq := run_eql_iface_ptr_same (P := Ybaf.prog) w b Ybaf.underlying33 Ybaf.underlying79 hi hcmp hj
  have hty := run_eql_iface_types (P := Ybaf.prog) 64 79 (.pointer (some ⟨pb, po, none⟩)) (.pointer (some b)) Ybaf.underlying33 (by decide) w
  go_enter Ybaf.func6, Ybaf.ntmps6
  go_wp2
  refine wp_loop_rounds 2 ?_
  rw [rounds_succ]
  go_wp2
  rw [rounds_succ]
  go_wp2
  go_ret
  exact ⟨rfl, rfl⟩

/-- errors.Is(e, x), e a *fmt.wrapError that wraps another error of errors.New's make. -/
theorem is_wrap_other (pb po : Nat) (b a : Addr) (ca cb : Array Value) (ta tb : TypeId) (w : World) (h1 : w.cell? ⟨pb, po + 1, none⟩ = some (.iface 79 (.pointer (some a)))) (hne : a ≠ b) (ha : w.heap[a.block]? = some (.cells ca ta (0, 0))) (hb : w.heap[b.block]? = some (.cells cb tb (0, 0))) :
    Calls Ybaf.prog 6 #[.iface 64 (.pointer (some ⟨pb, po, none⟩)), .iface 79 (.pointer (some b))] w fun e w' => e = .returned (.bool false) ∧ w' = w := by
  obtain ⟨i, hi, hcmp⟩ := Option.map_eq_some_iff.1 isComp
  obtain ⟨j, hj, hjs⟩ := Option.map_eq_some_iff.1 isSize
  have h8 := @run_callFunc_extern Ybaf.prog 10 _ Extern.ReflectliteType.typeOf Ybaf.func10 (by kernel_rfl) (by kernel_rfl) (by kernel_rfl) (by kernel_rfl)
  have h32 := @run_callFunc_extern Ybaf.prog 62 _ compM Ybaf.func62 (by kernel_rfl) (by kernel_rfl) (by kernel_rfl) (by kernel_rfl)
  have tT := isTypeOf
  have cT := isComparable
  have mR := isMethodComparable
  have nE := noIsE
  have uE := noUnwrapE
  have vE := noUnwrapsE
  have nW := noIsW
  have uW := hasUnwrapW
  have mU := methodUnwrap
  have heq := run_eql_iface_ptr_other (P := Ybaf.prog) w Ybaf.underlying33 Ybaf.underlying79 hi hcmp hj (by rw [hjs]; decide) hne ha hb
  have hty := run_eql_iface_types (P := Ybaf.prog) 64 79 (.pointer (some ⟨pb, po, none⟩)) (.pointer (some b)) Ybaf.underlying33 (by decide) w
  go_enter Ybaf.func6, Ybaf.ntmps6
  go_wp2
  refine wp_loop_rounds 2 ?_
  rw [rounds_succ]
  go_wp2
  rw [rounds_succ]
  go_wp2
  go_ret
  exact ⟨rfl, rfl⟩

/-- errors.Unwrap(e), e a *fmt.wrapError: what it wraps. -/
theorem unwrap_wrap (pb po : Nat) (v : Value) (x : Value) (w : World) (hv : v = .iface 79 x) (h1 : w.cell? ⟨pb, po + 1, none⟩ = some v) :
    Calls Ybaf.prog 7 #[.iface 64 (.pointer (some ⟨pb, po, none⟩))] w fun e w' => e = .returned v ∧ w' = w := by
  subst hv
  have uW := hasUnwrapW
  have mU := methodUnwrap
  go_enter Ybaf.func7, Ybaf.ntmps7
  go_wp2
  go_ret
  exact ⟨rfl, rfl⟩

end Go.Proofs.YbulkbeluFmt
