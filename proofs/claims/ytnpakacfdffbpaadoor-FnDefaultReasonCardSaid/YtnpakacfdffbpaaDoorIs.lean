/-
  errors.Is over two sentinels of this program, by Go's own text: the same sentinel answers true, two different ones answer false. Conditions: the two errors lie in memory as errors.New makes them.
-/
import Derived.Test.YtnpakacfdffbpaaDoorRows
import Derived.WalkKit
import Derived.LaidEql
import Derived.Stop.Asserts
import Derived.RowKitTokens
namespace Go.Proofs.YtnpakacfdffbpaaDoor
open Go.RowKit Go.Extern.Stop Go.Stop Go.Extern

theorem Tryd.isTypeOf (v : Value) (w : World) : (Extern.ReflectliteType.typeOf #[.iface 99 v]).run Tryd.prog w = .ok (.iface 90 (.agg #[.pointer (some ⟨11, 99, none⟩)])) w := by kernel_rfl
/-- The entry of the model for (rtype).Comparable, under a name. -/
def Tryd.cmpExt : Array Value → Sem Value := Extern.ReflectliteType.method fun t => do Extern.Rtype.noPackHeld "Comparable" t; pure (.bool (← typeInfo t).comparable)
theorem Tryd.isComparable (w : World) : (Tryd.cmpExt #[.agg #[.pointer (some ⟨11, 99, none⟩)]]).run Tryd.prog w = .ok (.bool true) w := by kernel_rfl
theorem Tryd.isMethodComparable (v : Value) (w : World) : (Go.method 238 90 v "Comparable").run Tryd.prog w = .ok (74, v) w := by kernel_rfl
theorem Tryd.isComp : (Tryd.prog.info? 99).map (·.comparable) = some true := by kernel_rfl
theorem Tryd.isSize : (Tryd.prog.info? 127).map (·.size) = some 1 := by kernel_rfl

theorem Tryd.noIsE (v : Value) (xT : TypeId) (w : World) : (Instr.typeAssert (.iface 99 v) xT 92 true).run Tryd.prog w = .ok (.tuple #[.nilIface, .bool false]) w := run_typeAssert_lacksB Tryd.underlying92 (by kernel_rfl) (by kernel_rfl) v xT w
theorem Tryd.noUnwrapE (v : Value) (xT : TypeId) (w : World) : (Instr.typeAssert (.iface 99 v) xT 94 true).run Tryd.prog w = .ok (.tuple #[.nilIface, .bool false]) w := run_typeAssert_lacksB Tryd.underlying94 (by kernel_rfl) (by kernel_rfl) v xT w
theorem Tryd.noUnwrapsE (v : Value) (xT : TypeId) (w : World) : (Instr.typeAssert (.iface 99 v) xT 96 true).run Tryd.prog w = .ok (.tuple #[.nilIface, .bool false]) w := run_typeAssert_lacksB Tryd.underlying96 (by kernel_rfl) (by kernel_rfl) v xT w

set_option maxRecDepth 100000 in
/-- errors.Is(x, x), x a pointer to an errors.errorString. -/
theorem is_same (a : Addr) (w : World) :
    Calls Tryd.prog 40 #[.iface 99 (.pointer (some a)), .iface 99 (.pointer (some a))] w fun e w' => e = .returned (.bool true) ∧ w' = w := by
  obtain ⟨i, hi, hcmp⟩ := Option.map_eq_some_iff.1 Tryd.isComp
  obtain ⟨j, hj, hjs⟩ := Option.map_eq_some_iff.1 Tryd.isSize
  have h8 := @run_callFunc_extern Tryd.prog 43 _ Extern.ReflectliteType.typeOf Tryd.func43 (by kernel_rfl) (by kernel_rfl) (by kernel_rfl) (by kernel_rfl)
  have h32 := @run_callFunc_extern Tryd.prog 74 _ Tryd.cmpExt Tryd.func74 (by kernel_rfl) (by kernel_rfl) (by kernel_rfl) (by kernel_rfl)
  have tT := Tryd.isTypeOf
  have cT := Tryd.isComparable
  have mR := Tryd.isMethodComparable
  have heq := run_eql_iface_ptr_same (P := Tryd.prog) w a Tryd.underlying37 Tryd.underlying99 hi hcmp hj
  go_enter Tryd.func40, Tryd.ntmps40
  go_wp2
  refine wp_loop_rounds 1 ?_
  rw [rounds_succ]
  go_wp2
  go_ret
  exact ⟨rfl, rfl⟩

set_option maxRecDepth 100000 in
/-- errors.Is(x, y), two different pointers to errors.errorString: neither has Is nor Unwrap: false. -/
theorem is_other (a b : Addr) (ca cb : Array Value) (ta tb : TypeId) (w : World) (hne : a ≠ b) (ha : w.heap[a.block]? = some (.cells ca ta (0, 0))) (hb : w.heap[b.block]? = some (.cells cb tb (0, 0))) :
    Calls Tryd.prog 40 #[.iface 99 (.pointer (some a)), .iface 99 (.pointer (some b))] w fun e w' => e = .returned (.bool false) ∧ w' = w := by
  obtain ⟨i, hi, hcmp⟩ := Option.map_eq_some_iff.1 Tryd.isComp
  obtain ⟨j, hj, hjs⟩ := Option.map_eq_some_iff.1 Tryd.isSize
  have h8 := @run_callFunc_extern Tryd.prog 43 _ Extern.ReflectliteType.typeOf Tryd.func43 (by kernel_rfl) (by kernel_rfl) (by kernel_rfl) (by kernel_rfl)
  have h32 := @run_callFunc_extern Tryd.prog 74 _ Tryd.cmpExt Tryd.func74 (by kernel_rfl) (by kernel_rfl) (by kernel_rfl) (by kernel_rfl)
  have tT := Tryd.isTypeOf
  have cT := Tryd.isComparable
  have mR := Tryd.isMethodComparable
  have nE := Tryd.noIsE
  have uE := Tryd.noUnwrapE
  have vE := Tryd.noUnwrapsE
  have heq := run_eql_iface_ptr_other (P := Tryd.prog) w Tryd.underlying37 Tryd.underlying99 hi hcmp hj (by rw [hjs]; decide) hne ha hb
  go_enter Tryd.func40, Tryd.ntmps40
  go_wp2
  refine wp_loop_rounds 1 ?_
  rw [rounds_succ]
  go_wp2
  go_ret
  exact ⟨rfl, rfl⟩

end Go.Proofs.YtnpakacfdffbpaaDoor
