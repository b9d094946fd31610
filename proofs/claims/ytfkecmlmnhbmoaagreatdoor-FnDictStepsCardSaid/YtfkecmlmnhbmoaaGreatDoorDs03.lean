import Derived.Test.YtfkecmlmnhbmoaaGreatDoorProg
import Derived.WalkKit
import Derived.WalkSpells
import Derived.WalkLawsBesides
import Derived.Lib.Hide
namespace Go.Proofs.YtfkecmlmnhbmoaaGreatDoor
open Go.RowKit
@[go_sem] theorem run_store_float (P : Program) (w : World) (a : Addr) (k : FloatKind) (b : Nat) (m : Mode) : (store a (.float k b) m).run P w = stored P w a (.float k b) m := run_store P w a _ m rfl
theorem ta_miss {P : Program} {t u : TypeId} {d : TypeDesc} {z : Value} (ht : P.underlying t = some d) (hd : ∀ ms, d ≠ .interface ms) (hz : ∀ w, (zeroValue t).run P w = .ok z w) (hne : u ≠ t) (v : Value) (xT : TypeId) (w : World) :
    (Instr.typeAssert (.iface u v) xT t true).run P w = .ok (.tuple #[z, .bool false]) w := by
  unfold Instr.typeAssert
  simp only [Sem.run_bind, run_underlying ht, Result.andThen]
  cases d <;> first | exact absurd rfl (hd _) | simp [hne, hz, Result.andThen]
theorem ta_hit {P : Program} {t : TypeId} {d : TypeDesc} (ht : P.underlying t = some d) (hd : ∀ ms, d ≠ .interface ms) (v : Value) (xT : TypeId) (w : World) :
    (Instr.typeAssert (.iface t v) xT t true).run P w = .ok (.tuple #[v, .bool true]) w := by
  unfold Instr.typeAssert
  simp only [Sem.run_bind, run_underlying ht, Result.andThen]
  cases d <;> first | exact absurd rfl (hd _) | simp
theorem Tryz.miss94 (u : TypeId) (h : u ≠ 94) (v : Value) (xT : TypeId) (w : World) : (Instr.typeAssert (.iface u v) xT 94 true).run Tryz.prog w = .ok (.tuple #[.bool false, .bool false]) w := ta_miss Tryz.underlying94 (by simp) (fun _ => by kernel_rfl) h v xT w
theorem Tryz.miss95 (u : TypeId) (h : u ≠ 95) (v : Value) (xT : TypeId) (w : World) : (Instr.typeAssert (.iface u v) xT 95 true).run Tryz.prog w = .ok (.tuple #[.int .i64 0, .bool false]) w := ta_miss Tryz.underlying95 (by simp) (fun _ => by kernel_rfl) h v xT w
theorem Tryz.miss96 (u : TypeId) (h : u ≠ 96) (v : Value) (xT : TypeId) (w : World) : (Instr.typeAssert (.iface u v) xT 96 true).run Tryz.prog w = .ok (.tuple #[.float .f64 0, .bool false]) w := ta_miss Tryz.underlying96 (by simp) (fun _ => by kernel_rfl) h v xT w
theorem Tryz.miss97 (u : TypeId) (h : u ≠ 97) (v : Value) (xT : TypeId) (w : World) : (Instr.typeAssert (.iface u v) xT 97 true).run Tryz.prog w = .ok (.tuple #[.string ⟨#[]⟩, .bool false]) w := ta_miss Tryz.underlying97 (by simp) (fun _ => by kernel_rfl) h v xT w
theorem Tryz.miss98 (u : TypeId) (h : u ≠ 98) (v : Value) (xT : TypeId) (w : World) : (Instr.typeAssert (.iface u v) xT 98 true).run Tryz.prog w = .ok (.tuple #[.string ⟨#[]⟩, .bool false]) w := ta_miss Tryz.underlying98 (by simp) (fun _ => by kernel_rfl) h v xT w
theorem Tryz.miss99 (u : TypeId) (h : u ≠ 99) (v : Value) (xT : TypeId) (w : World) : (Instr.typeAssert (.iface u v) xT 99 true).run Tryz.prog w = .ok (.tuple #[.string ⟨#[]⟩, .bool false]) w := ta_miss Tryz.underlying99 (by simp) (fun _ => by kernel_rfl) h v xT w
theorem Tryz.miss101 (u : TypeId) (h : u ≠ 101) (v : Value) (xT : TypeId) (w : World) : (Instr.typeAssert (.iface u v) xT 101 true).run Tryz.prog w = .ok (.tuple #[.agg #[.int .i64 0, .int .i64 0], .bool false]) w := ta_miss Tryz.underlying101 (by simp) (fun _ => by kernel_rfl) h v xT w
theorem Tryz.miss70 (u : TypeId) (h : u ≠ 70) (v : Value) (xT : TypeId) (w : World) : (Instr.typeAssert (.iface u v) xT 70 true).run Tryz.prog w = .ok (.tuple #[.slice none 0 0, .bool false]) w := ta_miss Tryz.underlying70 (by simp) (fun _ => by kernel_rfl) h v xT w
theorem Tryz.hit94 (v : Value) (xT : TypeId) (w : World) : (Instr.typeAssert (.iface 94 v) xT 94 true).run Tryz.prog w = .ok (.tuple #[v, .bool true]) w := ta_hit Tryz.underlying94 (by simp) v xT w
theorem Tryz.hit95 (v : Value) (xT : TypeId) (w : World) : (Instr.typeAssert (.iface 95 v) xT 95 true).run Tryz.prog w = .ok (.tuple #[v, .bool true]) w := ta_hit Tryz.underlying95 (by simp) v xT w
theorem Tryz.hit96 (v : Value) (xT : TypeId) (w : World) : (Instr.typeAssert (.iface 96 v) xT 96 true).run Tryz.prog w = .ok (.tuple #[v, .bool true]) w := ta_hit Tryz.underlying96 (by simp) v xT w
theorem Tryz.hit97 (v : Value) (xT : TypeId) (w : World) : (Instr.typeAssert (.iface 97 v) xT 97 true).run Tryz.prog w = .ok (.tuple #[v, .bool true]) w := ta_hit Tryz.underlying97 (by simp) v xT w
theorem Tryz.hit98 (v : Value) (xT : TypeId) (w : World) : (Instr.typeAssert (.iface 98 v) xT 98 true).run Tryz.prog w = .ok (.tuple #[v, .bool true]) w := ta_hit Tryz.underlying98 (by simp) v xT w
theorem Tryz.hit99 (v : Value) (xT : TypeId) (w : World) : (Instr.typeAssert (.iface 99 v) xT 99 true).run Tryz.prog w = .ok (.tuple #[v, .bool true]) w := ta_hit Tryz.underlying99 (by simp) v xT w
theorem Tryz.hit101 (v : Value) (xT : TypeId) (w : World) : (Instr.typeAssert (.iface 101 v) xT 101 true).run Tryz.prog w = .ok (.tuple #[v, .bool true]) w := ta_hit Tryz.underlying101 (by simp) v xT w
theorem Tryz.hit70 (v : Value) (xT : TypeId) (w : World) : (Instr.typeAssert (.iface 70 v) xT 70 true).run Tryz.prog w = .ok (.tuple #[v, .bool true]) w := ta_hit Tryz.underlying70 (by simp) v xT w
theorem Tryz.hit61 (v : Value) (xT : TypeId) (w : World) : (Instr.typeAssert (.iface 61 v) xT 61 true).run Tryz.prog w = .ok (.tuple #[v, .bool true]) w := ta_hit Tryz.underlying61 (by simp) v xT w
end Go.Proofs.YtfkecmlmnhbmoaaGreatDoor
