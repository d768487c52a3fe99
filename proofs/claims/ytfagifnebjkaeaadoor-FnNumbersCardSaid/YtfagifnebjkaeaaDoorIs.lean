/- errors.Is by its contracts, where the target is a sentinel of errors.New's make: walked after the guide's worked text SentryIs. -/
import Derived.Test.YtfagifnebjkaeaaDoorProg
import Derived.WalkKit
import Derived.KernelRfl
import Derived.LaidEql
import Derived.Stop.Asserts
import Derived.RowKitTokens
namespace Go.Proofs
open Go.RowKit Go.Extern.Stop Go.Stop Go.Extern

noncomputable def cmpMeth : Array Value → Sem Value := Extern.ReflectliteType.method fun t => do Rtype.noPackHeld "Comparable" t; pure (.bool (← typeInfo t).comparable)

/-! ### CLOSED FACTS: what 'reflectlite.TypeOf(target).Comparable()' gives at such a target -/
theorem Tryd.isTypeOf (v : Value) (w : World) : (Extern.ReflectliteType.typeOf #[.iface 97 v]).run Tryd.prog w = .ok (.iface 88 (.agg #[.pointer (some ⟨4, 97, none⟩)])) w := by kernel_rfl
theorem Tryd.isComparable (w : World) : (cmpMeth #[.agg #[.pointer (some ⟨4, 97, none⟩)]]).run Tryd.prog w = .ok (.bool true) w := by kernel_rfl
theorem Tryd.isMethodComparable (v : Value) (w : World) : (Go.method 314 88 v "Comparable").run Tryd.prog w = .ok (65, v) w := by kernel_rfl
theorem Tryd.isComp : (Tryd.prog.info? 97).map (·.comparable) = some true := by kernel_rfl
theorem Tryd.isSize : (Tryd.prog.info? 99).map (·.size) = some 1 := by kernel_rfl

/-! ### CLOSED FACTS ON THE METHOD SETS: what errors.is's assertions find -/
theorem Tryd.noIsE (v : Value) (xT : TypeId) (w : World) : (Instr.typeAssert (.iface 97 v) xT 90 true).run Tryd.prog w = .ok (.tuple #[.nilIface, .bool false]) w := run_typeAssert_lacksB Tryd.underlying90 (by kernel_rfl) (by kernel_rfl) v xT w
theorem Tryd.noUnwrapE (v : Value) (xT : TypeId) (w : World) : (Instr.typeAssert (.iface 97 v) xT 93 true).run Tryd.prog w = .ok (.tuple #[.nilIface, .bool false]) w := run_typeAssert_lacksB Tryd.underlying93 (by kernel_rfl) (by kernel_rfl) v xT w
theorem Tryd.noUnwrapsE (v : Value) (xT : TypeId) (w : World) : (Instr.typeAssert (.iface 97 v) xT 94 true).run Tryd.prog w = .ok (.tuple #[.nilIface, .bool false]) w := run_typeAssert_lacksB Tryd.underlying94 (by kernel_rfl) (by kernel_rfl) v xT w

set_option maxRecDepth 20000 in
/-- errors.Is(x, x), x a pointer to an errors.errorString. -/
theorem is_same (a : Addr) (w : World) :
    Calls Tryd.prog 28 #[.iface 97 (.pointer (some a)), .iface 97 (.pointer (some a))] w fun e w' => e = .returned (.bool true) ∧ w' = w := by
  obtain ⟨i, hi, hcmp⟩ := Option.map_eq_some_iff.1 Tryd.isComp
  obtain ⟨j, hj, hjs⟩ := Option.map_eq_some_iff.1 Tryd.isSize
  have h8 := @run_callFunc_extern Tryd.prog 39 _ Extern.ReflectliteType.typeOf Tryd.func39 (by kernel_rfl) (by kernel_rfl) (by kernel_rfl) (by kernel_rfl)
  have h32 := @run_callFunc_extern Tryd.prog 65 _ cmpMeth Tryd.func65 (by kernel_rfl) (by kernel_rfl) (by kernel_rfl) (by kernel_rfl)
  have tT := Tryd.isTypeOf
  have cT := Tryd.isComparable
  have mR := Tryd.isMethodComparable
  have heq := run_eql_iface_ptr_same (P := Tryd.prog) w a Tryd.underlying43 Tryd.underlying97 hi hcmp hj
  go_enter Tryd.func28, Tryd.ntmps28
  go_wp2
  refine wp_loop_rounds 1 ?_
  rw [rounds_succ]
  go_wp2
  go_ret
  exact ⟨rfl, rfl⟩

set_option maxRecDepth 20000 in
/-- errors.Is(x, y), two different pointers to errors.errorString: neither has Is nor Unwrap: false. -/
theorem is_other (a b : Addr) (ca cb : Array Value) (ta tb : TypeId) (w : World) (hne : a ≠ b) (ha : w.heap[a.block]? = some (.cells ca ta (0, 0))) (hb : w.heap[b.block]? = some (.cells cb tb (0, 0))) :
    Calls Tryd.prog 28 #[.iface 97 (.pointer (some a)), .iface 97 (.pointer (some b))] w fun e w' => e = .returned (.bool false) ∧ w' = w := by
  obtain ⟨i, hi, hcmp⟩ := Option.map_eq_some_iff.1 Tryd.isComp
  obtain ⟨j, hj, hjs⟩ := Option.map_eq_some_iff.1 Tryd.isSize
  have h8 := @run_callFunc_extern Tryd.prog 39 _ Extern.ReflectliteType.typeOf Tryd.func39 (by kernel_rfl) (by kernel_rfl) (by kernel_rfl) (by kernel_rfl)
  have h32 := @run_callFunc_extern Tryd.prog 65 _ cmpMeth Tryd.func65 (by kernel_rfl) (by kernel_rfl) (by kernel_rfl) (by kernel_rfl)
  have tT := Tryd.isTypeOf
  have cT := Tryd.isComparable
  have mR := Tryd.isMethodComparable
  have nE := Tryd.noIsE
  have uE := Tryd.noUnwrapE
  have vE := Tryd.noUnwrapsE
  have heq := run_eql_iface_ptr_other (P := Tryd.prog) w Tryd.underlying43 Tryd.underlying97 hi hcmp hj (by rw [hjs]; decide) hne ha hb
  go_enter Tryd.func28, Tryd.ntmps28
  go_wp2
  refine wp_loop_rounds 1 ?_
  rw [rounds_succ]
  go_wp2
  go_ret
  exact ⟨rfl, rfl⟩


end Go.Proofs
