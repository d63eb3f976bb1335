/-
  errors.Is (41) AT nil AND AT POINTERS TO errors.errorString, by a walk of its text (after the guide's worked example on errors.Is, turned to this program's numbers).
-/
import Derived.Test.Qxb6613793aDoorProg
import Derived.WalkKit
import Derived.LaidEql
import Derived.Stop.Asserts
import Derived.RowKitTokens
set_option linter.unusedVariables false
set_option linter.unusedSimpArgs false
namespace Go.Proofs.Qxb6613793aDoor
open Go.RowKit Go.Extern.Stop Go.Stop Go.Extern

theorem isTypeOf (v : Value) (w : World) : (Extern.ReflectliteType.typeOf #[.iface 91 v]).run Tryd.prog w = .ok (.iface 80 (.agg #[.pointer (some ⟨5, 91, none⟩)])) w := by kernel_rfl
theorem isComparable (w : World) : ((Extern.ReflectliteType.method fun t => do Rtype.noPackHeld "Comparable" t; (fun a => Value.bool a.comparable) <$> typeInfo t) #[.agg #[.pointer (some ⟨5, 91, none⟩)]]).run Tryd.prog w = .ok (.bool true) w := by kernel_rfl
theorem isMethodComparable (v : Value) (w : World) : (Go.method 229 80 v "Comparable").run Tryd.prog w = .ok (77, v) w := by kernel_rfl
theorem isComp : (Tryd.prog.info? 91).map (·.comparable) = some true := by kernel_rfl
theorem isSize : (Tryd.prog.info? 117).map (·.size) = some 1 := by kernel_rfl
theorem noIsE (v : Value) (xT : TypeId) (w : World) : (Instr.typeAssert (.iface 91 v) xT 82 true).run Tryd.prog w = .ok (.tuple #[.nilIface, .bool false]) w := run_typeAssert_lacksB Tryd.underlying82 (by kernel_rfl) (by kernel_rfl) v xT w
theorem noUnwrapE (v : Value) (xT : TypeId) (w : World) : (Instr.typeAssert (.iface 91 v) xT 85 true).run Tryd.prog w = .ok (.tuple #[.nilIface, .bool false]) w := run_typeAssert_lacksB Tryd.underlying85 (by kernel_rfl) (by kernel_rfl) v xT w
theorem noUnwrapsE (v : Value) (xT : TypeId) (w : World) : (Instr.typeAssert (.iface 91 v) xT 86 true).run Tryd.prog w = .ok (.tuple #[.nilIface, .bool false]) w := run_typeAssert_lacksB Tryd.underlying86 (by kernel_rfl) (by kernel_rfl) v xT w

set_option maxRecDepth 100000 in
set_option maxHeartbeats 400000 in
theorem is_nil (b : Addr) (w : World) :
    Calls Tryd.prog 41 #[.nilIface, .iface 91 (.pointer (some b))] w fun e w' => e = .returned (.bool false) ∧ w = w' := by
  have hn := run_eql_iface_nil_left (P := Tryd.prog) w 91 (.pointer (some b)) Tryd.underlying50
  go_enter Tryd.func41, Tryd.ntmps41
  go_wp2
  go_ret
  exact ⟨rfl, rfl⟩

set_option maxRecDepth 100000 in
set_option maxHeartbeats 400000 in
theorem is_same (a : Addr) (w : World) :
    Calls Tryd.prog 41 #[.iface 91 (.pointer (some a)), .iface 91 (.pointer (some a))] w fun e w' => e = .returned (.bool true) ∧ w = w' := by
  obtain ⟨i, hi, hcmp⟩ := Option.map_eq_some_iff.1 isComp
  obtain ⟨j, hj, hjs⟩ := Option.map_eq_some_iff.1 isSize
  have h8 := @run_callFunc_extern Tryd.prog 45 _ Extern.ReflectliteType.typeOf Tryd.func45 (by kernel_rfl) (by kernel_rfl) (by kernel_rfl) (by kernel_rfl)
  have h32 := @run_callFunc_extern Tryd.prog 77 _ (Extern.ReflectliteType.method fun t => do Rtype.noPackHeld "Comparable" t; pure (.bool (← typeInfo t).comparable)) Tryd.func77 (by kernel_rfl) (by kernel_rfl) (by kernel_rfl) (by kernel_rfl)
  have tT := isTypeOf
  have cT := isComparable
  have mR := isMethodComparable
  have heq := run_eql_iface_ptr_same (P := Tryd.prog) w a Tryd.underlying50 Tryd.underlying91 hi hcmp hj
  go_enter Tryd.func41, Tryd.ntmps41
  go_wp2
  refine wp_loop_rounds 1 ?_
  rw [rounds_succ]
  go_wp2
  go_ret
  exact ⟨rfl, rfl⟩

set_option maxRecDepth 100000 in
set_option maxHeartbeats 400000 in
theorem is_other (a b : Addr) (ca cb : Array Value) (ta tb : TypeId) (w : World) (hne : a ≠ b) (ha : w.heap[a.block]? = some (.cells ca ta (0, 0))) (hb : w.heap[b.block]? = some (.cells cb tb (0, 0))) :
    Calls Tryd.prog 41 #[.iface 91 (.pointer (some a)), .iface 91 (.pointer (some b))] w fun e w' => e = .returned (.bool false) ∧ w = w' := by
  obtain ⟨i, hi, hcmp⟩ := Option.map_eq_some_iff.1 isComp
  obtain ⟨j, hj, hjs⟩ := Option.map_eq_some_iff.1 isSize
  have h8 := @run_callFunc_extern Tryd.prog 45 _ Extern.ReflectliteType.typeOf Tryd.func45 (by kernel_rfl) (by kernel_rfl) (by kernel_rfl) (by kernel_rfl)
  have h32 := @run_callFunc_extern Tryd.prog 77 _ (Extern.ReflectliteType.method fun t => do Rtype.noPackHeld "Comparable" t; pure (.bool (← typeInfo t).comparable)) Tryd.func77 (by kernel_rfl) (by kernel_rfl) (by kernel_rfl) (by kernel_rfl)
  have tT := isTypeOf
  have cT := isComparable
  have mR := isMethodComparable
  have nE := noIsE
  have uE := noUnwrapE
  have vE := noUnwrapsE
  have heq := run_eql_iface_ptr_other (P := Tryd.prog) w Tryd.underlying50 Tryd.underlying91 hi hcmp hj (by rw [hjs]; decide) hne ha hb
  go_enter Tryd.func41, Tryd.ntmps41
  go_wp2
  refine wp_loop_rounds 1 ?_
  rw [rounds_succ]
  go_wp2
  go_ret
  exact ⟨rfl, rfl⟩
end Go.Proofs.Qxb6613793aDoor
