/- Whether an error is a sentinel: Go's own errors.Is. Nothing is claimed here. -/
import Derived.Test.YtfilbgmbmlmdbaaGreatDoorBase
import Derived.WalkKit
import Derived.LaidEql
import Derived.Stop.Asserts
import Derived.RowKitTokens
namespace Go.Proofs.YtfilbgmbmlmdbaaGreatDoor
open Go.RowKit Go.Extern.Stop Go.Stop Go.Extern

theorem isTypeOf (v : Value) (w : World) : (Extern.ReflectliteType.typeOf #[.iface 228 v]).run Tryz.prog w = .ok (.iface 262 (.agg #[.pointer (some ⟨9, 228, none⟩)])) w := by kernel_rfl
/-- The model's own entry for (rtype).Comparable. -/
def cmpEntry : Array Value → Sem Value := Extern.ReflectliteType.method fun t => do
  Extern.Rtype.noPackHeld "Comparable" t
  pure (.bool (← typeInfo t).comparable)
theorem isComparable (w : World) : (cmpEntry #[.agg #[.pointer (some ⟨9, 228, none⟩)]]).run Tryz.prog w = .ok (.bool true) w := by kernel_rfl
theorem isComp : (Tryz.prog.info? 228).map (·.comparable) = some true := by kernel_rfl
theorem isSize : (Tryz.prog.info? 230).map (·.size) = some 1 := by kernel_rfl
theorem noIsE (v : Value) (xT : TypeId) (w : World) : (Instr.typeAssert (.iface 228 v) xT 264 true).run Tryz.prog w = .ok (.tuple #[.nilIface, .bool false]) w := run_typeAssert_lacksB Tryz.underlying264 (by kernel_rfl) (by kernel_rfl) v xT w
theorem noUnwrapE (v : Value) (xT : TypeId) (w : World) : (Instr.typeAssert (.iface 228 v) xT 267 true).run Tryz.prog w = .ok (.tuple #[.nilIface, .bool false]) w := run_typeAssert_lacksB Tryz.underlying267 (by kernel_rfl) (by kernel_rfl) v xT w
theorem noUnwrapsE (v : Value) (xT : TypeId) (w : World) : (Instr.typeAssert (.iface 228 v) xT 269 true).run Tryz.prog w = .ok (.tuple #[.nilIface, .bool false]) w := run_typeAssert_lacksB Tryz.underlying269 (by kernel_rfl) (by kernel_rfl) v xT w
set_option maxRecDepth 100000 in
theorem is_same (a : Addr) (w : World) :
    Calls Tryz.prog 58 #[.iface 228 (.pointer (some a)), .iface 228 (.pointer (some a))] w fun e w' => e = .returned (.bool true) ∧ w' = w := by
  obtain ⟨i, hi, hcmp⟩ := Option.map_eq_some_iff.1 isComp
  obtain ⟨j, hj, hjs⟩ := Option.map_eq_some_iff.1 isSize
  have h8 := @run_callFunc_extern Tryz.prog 76 _ Extern.ReflectliteType.typeOf Tryz.func76 (by kernel_rfl) (by kernel_rfl) (by kernel_rfl) (by kernel_rfl)
  have h32 := @run_callFunc_extern Tryz.prog 182 _ cmpEntry Tryz.func182 (by kernel_rfl) (by kernel_rfl) (by kernel_rfl) (by kernel_rfl)
  have tT := isTypeOf
  have cT := isComparable
  have heq := run_eql_iface_ptr_same (P := Tryz.prog) w a Tryz.underlying84 Tryz.underlying228 hi hcmp hj
  go_enter Tryz.func58, Tryz.ntmps58
  go_wp2
  refine wp_loop_rounds 1 ?_
  rw [rounds_succ]
  go_wp2
  go_ret
  exact ⟨rfl, rfl⟩
theorem is_nil (b : Addr) (w : World) :
    Calls Tryz.prog 58 #[.nilIface, .iface 228 (.pointer (some b))] w fun e w' => e = .returned (.bool false) ∧ w' = w := by
  have hn := run_eql_iface_nil_left (P := Tryz.prog) w 228 (.pointer (some b)) Tryz.underlying84
  go_enter Tryz.func58, Tryz.ntmps58
  go_wp2
  go_ret
  exact ⟨rfl, rfl⟩
set_option maxRecDepth 100000 in
theorem is_other (a b : Addr) (ca cb : Array Value) (ta tb : TypeId) (w : World) (hne : a ≠ b) (ha : w.heap[a.block]? = some (.cells ca ta (0, 0))) (hb : w.heap[b.block]? = some (.cells cb tb (0, 0))) :
    Calls Tryz.prog 58 #[.iface 228 (.pointer (some a)), .iface 228 (.pointer (some b))] w fun e w' => e = .returned (.bool false) ∧ w' = w := by
  obtain ⟨i, hi, hcmp⟩ := Option.map_eq_some_iff.1 isComp
  obtain ⟨j, hj, hjs⟩ := Option.map_eq_some_iff.1 isSize
  have h8 := @run_callFunc_extern Tryz.prog 76 _ Extern.ReflectliteType.typeOf Tryz.func76 (by kernel_rfl) (by kernel_rfl) (by kernel_rfl) (by kernel_rfl)
  have h32 := @run_callFunc_extern Tryz.prog 182 _ cmpEntry Tryz.func182 (by kernel_rfl) (by kernel_rfl) (by kernel_rfl) (by kernel_rfl)
  have tT := isTypeOf
  have cT := isComparable
  have nE := noIsE
  have uE := noUnwrapE
  have vE := noUnwrapsE
  have heq := run_eql_iface_ptr_other (P := Tryz.prog) w Tryz.underlying84 Tryz.underlying228 hi hcmp hj (by rw [hjs]; decide) hne ha hb
  go_enter Tryz.func58, Tryz.ntmps58
  go_wp2
  refine wp_loop_rounds 1 ?_
  rw [rounds_succ]
  go_wp2
  go_ret
  exact ⟨rfl, rfl⟩
#print axioms is_same
#print axioms is_other
end Go.Proofs.YtfilbgmbmlmdbaaGreatDoor
