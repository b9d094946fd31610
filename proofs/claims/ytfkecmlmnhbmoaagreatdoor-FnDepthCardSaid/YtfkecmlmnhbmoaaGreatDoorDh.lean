import Derived.LaidEql
import Derived.Stop.Asserts
import Derived.RowKitTokens
import Derived.Test.YtfkecmlmnhbmoaaGreatDoorDg
namespace Go.Proofs.YtfkecmlmnhbmoaaGreatDoor
open Go.RowKit Go.Extern.Stop Go.Stop Go.Extern
theorem Tryz.isTypeOf (v : Value) (w : World) : (Extern.ReflectliteType.typeOf #[.iface 171 v]).run Tryz.prog w = .ok (.iface 188 (.agg #[.pointer (some ⟨28, 171, none⟩)])) w := by kernel_rfl
theorem Tryz.isComparable (w : World) : ((Extern.ReflectliteType.method fun t => do Rtype.noPackHeld "Comparable" t; (fun a => Value.bool a.comparable) <$> typeInfo t) #[.agg #[.pointer (some ⟨28, 171, none⟩)]]).run Tryz.prog w = .ok (.bool true) w := by kernel_rfl
theorem Tryz.isMethodComparable (v : Value) (w : World) : (Go.method 483 188 v "Comparable").run Tryz.prog w = .ok (293, v) w := by kernel_rfl
theorem Tryz.isComp : (Tryz.prog.info? 171).map (·.comparable) = some true := by kernel_rfl
theorem Tryz.isSize : (Tryz.prog.info? 173).map (·.size) = some 1 := by kernel_rfl
set_option maxRecDepth 100000 in
set_option maxHeartbeats 1000000 in
/-- errors.Is(x, x), x a pointer to an errors.errorString. -/
theorem is_same (a : Addr) (w : World) :
    Calls Tryz.prog 65 #[errV a, errV a] w fun e w' => e = .returned (.bool true) ∧ w = w' := by
  obtain ⟨i, hi, hcmp⟩ := Option.map_eq_some_iff.1 Tryz.isComp
  obtain ⟨j, hj, hjs⟩ := Option.map_eq_some_iff.1 Tryz.isSize
  have h8 := @run_callFunc_extern Tryz.prog 82 _ Extern.ReflectliteType.typeOf Tryz.func82 (by kernel_rfl) (by kernel_rfl) (by kernel_rfl) (by kernel_rfl)
  have h32 := @run_callFunc_extern Tryz.prog 293 _ (Extern.ReflectliteType.method fun t => do Rtype.noPackHeld "Comparable" t; pure (.bool (← typeInfo t).comparable)) Tryz.func293 (by kernel_rfl) (by kernel_rfl) (by kernel_rfl) (by kernel_rfl)
  have tT := Tryz.isTypeOf
  have cT := Tryz.isComparable
  have mR := Tryz.isMethodComparable
  have heq := run_eql_iface_ptr_same (P := Tryz.prog) w a Tryz.underlying84 Tryz.underlying171 hi hcmp hj
  unfold errV
  go_enter Tryz.func65, Tryz.ntmps65
  go_wp2
  refine wp_loop_rounds 1 ?_
  rw [rounds_succ]
  go_wp2
  go_ret
  exact ⟨rfl, rfl⟩
end Go.Proofs.YtfkecmlmnhbmoaaGreatDoor
