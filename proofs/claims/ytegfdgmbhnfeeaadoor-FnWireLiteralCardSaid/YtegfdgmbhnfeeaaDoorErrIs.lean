/- errors.Is, where the target is a sentinel of errors.New's make: the sentinel itself; an error of this program's own type that has neither Is nor Unwrap. (Turned from the worked proof SentryIs.) -/
import Derived.Test.YtegfdgmbhnfeeaaDoorProg
import Derived.WalkKit
import Derived.LaidEql
import Derived.Stop.Asserts
import Derived.RowKitTokens
namespace Go.Proofs.YtegfdgmbhnfeeaaDoor
open Go.RowKit Go.Extern.Stop Go.Stop Go.Extern
theorem isTypeOf (v : Value) (w : World) : (Extern.ReflectliteType.typeOf #[.iface 73 v]).run Tryd.prog w = .ok (.iface 58 (.agg #[.pointer (some ⟨3, 73, none⟩)])) w := by kernel_rfl
/-- The entry of the model for 'Comparable'. -/
noncomputable def compM : Array Value → Sem Value := Extern.ReflectliteType.method fun t => do Go.Extern.Rtype.noPackHeld "Comparable" t; pure (.bool (← typeInfo t).comparable)
theorem isComparable (w : World) : (compM #[.agg #[.pointer (some ⟨3, 73, none⟩)]]).run Tryd.prog w = .ok (.bool true) w := by kernel_rfl
theorem isMethodComparable (v : Value) (w : World) : (Go.method 211 58 v "Comparable").run Tryd.prog w = .ok (40, v) w := by kernel_rfl
theorem isComp : (Tryd.prog.info? 73).map (·.comparable) = some true := by kernel_rfl
theorem isSize : (Tryd.prog.info? 99).map (·.size) = some 1 := by kernel_rfl
theorem noIs (v : Value) (xT : TypeId) (w : World) : (Instr.typeAssert (.iface 48 v) xT 60 true).run Tryd.prog w = .ok (.tuple #[.nilIface, .bool false]) w := run_typeAssert_lacksB Tryd.underlying60 (by kernel_rfl) (by kernel_rfl) v xT w
theorem noUnwrap (v : Value) (xT : TypeId) (w : World) : (Instr.typeAssert (.iface 48 v) xT 63 true).run Tryd.prog w = .ok (.tuple #[.nilIface, .bool false]) w := run_typeAssert_lacksB Tryd.underlying63 (by kernel_rfl) (by kernel_rfl) v xT w
theorem noUnwraps (v : Value) (xT : TypeId) (w : World) : (Instr.typeAssert (.iface 48 v) xT 65 true).run Tryd.prog w = .ok (.tuple #[.nilIface, .bool false]) w := run_typeAssert_lacksB Tryd.underlying65 (by kernel_rfl) (by kernel_rfl) v xT w
/-- errors.Is(x, x), x a pointer to an errors.errorString. -/
theorem is_same (a : Addr) (w : World) :
    Calls Tryd.prog 13 #[.iface 73 (.pointer (some a)), .iface 73 (.pointer (some a))] w fun e w' => e = .returned (.bool true) ∧ w' = w := by
  obtain ⟨i, hi, hcmp⟩ := Option.map_eq_some_iff.1 isComp
  obtain ⟨j, hj, hjs⟩ := Option.map_eq_some_iff.1 isSize
  have h8 := @run_callFunc_extern Tryd.prog 16 _ Extern.ReflectliteType.typeOf Tryd.func16 (by kernel_rfl) (by kernel_rfl) (by kernel_rfl) (by kernel_rfl)
  have h32 := @run_callFunc_extern Tryd.prog 40 _ compM Tryd.func40 (by kernel_rfl) (by kernel_rfl) (by kernel_rfl) (by kernel_rfl)
  have tT := isTypeOf
  have cT := isComparable
  have mR := isMethodComparable
  have heq := run_eql_iface_ptr_same (P := Tryd.prog) w a Tryd.underlying31 Tryd.underlying73 hi hcmp hj
  go_enter Tryd.func13, Tryd.ntmps13
  go_wp2
  refine wp_loop_rounds 1 ?_
  rw [rounds_succ]
  go_wp2
  go_ret
  exact ⟨rfl, rfl⟩
/-- errors.Is(e, x), e of this program's own type. -/
theorem is_own (p b : Addr) (w : World) :
    Calls Tryd.prog 13 #[.iface 48 (.pointer (some p)), .iface 73 (.pointer (some b))] w fun e w' => e = .returned (.bool false) ∧ w' = w := by
  obtain ⟨i, hi, hcmp⟩ := Option.map_eq_some_iff.1 isComp
  obtain ⟨j, hj, hjs⟩ := Option.map_eq_some_iff.1 isSize
  have h8 := @run_callFunc_extern Tryd.prog 16 _ Extern.ReflectliteType.typeOf Tryd.func16 (by kernel_rfl) (by kernel_rfl) (by kernel_rfl) (by kernel_rfl)
  have h32 := @run_callFunc_extern Tryd.prog 40 _ compM Tryd.func40 (by kernel_rfl) (by kernel_rfl) (by kernel_rfl) (by kernel_rfl)
  have tT := isTypeOf
  have cT := isComparable
  have mR := isMethodComparable
  have nE := noIs
  have uE := noUnwrap
  have vE := noUnwraps
  have hty := run_eql_iface_types (P := Tryd.prog) 48 73 (.pointer (some p)) (.pointer (some b)) Tryd.underlying31 (by decide) w
  go_enter Tryd.func13, Tryd.ntmps13
  go_wp2
  refine wp_loop_rounds 1 ?_
  rw [rounds_succ]
  go_wp2
  go_ret
  exact ⟨rfl, rfl⟩
end Go.Proofs.YtegfdgmbhnfeeaaDoor
