import Derived.Test.YtfkecmlmnhbmoaaGreatDoorDj
namespace Go.Proofs.YtfkecmlmnhbmoaaGreatDoor
open Go.RowKit
theorem catch_idle (p : Addr) (w : World) :
    CallsD Tryz.prog 77 #[.pointer (some p)] .returning w fun e u' w' => e = .returned (.tuple #[]) ∧ u' = .returning ∧ w = w' := by
  refine callsD_of_wpS Tryz.func77 rfl fun c₀ cs hu => ?_
  apply wpS_seq
  apply wpS_region
  simp [wpOpsS, go_sem, recoverD, hu, Tryz.ntmps77, Exit.thenS]
  refine wpS_cond (t := false) (by simp [Act.eval, Array.replicate]) ?_
  simp only [Bool.false_eq_true, if_false]
  refine wpS_of_wp (wp_skip ?_)
  cases c₀
  simp_all [bodyPostS, results, Tryz.results77]
set_option maxRecDepth 100000 in
set_option maxHeartbeats 1000000 in
theorem calm_ok (c0 c1 c2 c3 : Value) (Q : World → Prop) (w : World)
    (hf : Calls Tryz.prog 61 #[c0, c1, c2, c3] (w.alloc (.cells #[.bool false] 4)) fun e w' => e = .returned (.tuple #[]) ∧ Q w' ∧ w'.heap[w.heap.size]? = some (.cells #[.bool false] 4 (0, 0))) :
    Calls Tryz.prog 60 #[.func (.func 61) #[] #[c0, c1, c2, c3]] w fun e w'' => ∃ w', e = .returned (.bool true) ∧ Q w' ∧ w'' = w'.setCell ⟨w.heap.size, 0, none⟩ (.bool true) := by
  have hmf : ∀ (fn : Fn) (first cap : Array Value) (w : World), (Instr.makeFunc fn first cap).run Tryz.prog w = .ok (.func fn first cap) w := fun _ _ _ _ => rfl
  have HF := Lib.hid hf; clear hf
  go_enter_defers Tryz.func60, Tryz.ntmps60
  go_wp2_with fail
  refine HF.out.mono ?_
  rintro e w1 ⟨rfl, hq, hb⟩
  have hc := one_cell hb
  have hz := one_free hb 0
  have HQ := Lib.hid hq; have HB := Lib.hid hb; clear hq hb
  go_wp2_with fail
  refine leaves_cons (f := 77) (args := #[.pointer (some ⟨w.heap.size, 0, none⟩)]) (by simp) (by simp [go_sem]) ?_
  refine (catch_idle ⟨w.heap.size, 0, none⟩ _).mono ?_
  rintro e u' w'' ⟨rfl, rfl, rfl⟩
  simp [Leaves, settle, results, Tryz.results60, go_sem, hc]
  exact ⟨_, HQ.out, rfl⟩
end Go.Proofs.YtfkecmlmnhbmoaaGreatDoor
