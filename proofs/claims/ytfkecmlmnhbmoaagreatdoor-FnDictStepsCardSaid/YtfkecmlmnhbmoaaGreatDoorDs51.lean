import Derived.Test.YtfkecmlmnhbmoaaGreatDoorDs44
import Derived.Test.YtfkecmlmnhbmoaaGreatDoorDs48
import Derived.Test.YtfkecmlmnhbmoaaGreatDoorDs47
import Derived.Test.YtfkecmlmnhbmoaaGreatDoorRows
import Derived.Test.YtfkecmlmnhbmoaaGreatDoorDs50
namespace Go.Proofs.YtfkecmlmnhbmoaaGreatDoor
open Go.ChangeShapes Go.WideShapes Go.ChangeAt Go.RowKit Go.Lib
set_option maxHeartbeats 4000000
theorem dkRowed : varsRowed Tryz.prog Rows.fnDictStepsSpec.vars = true := by kernel_rfl
theorem dkRead42 : Tryz.prog.readableRec 42 = true := by kernel_rfl
theorem dkRow42 : 42 < Tryz.prog.types.size := of_decide_eq_true (by kernel_rfl)
theorem dkPlain : (Rows.fnDictStepsRow.laid.all fun x => x.2.handleName?.isNone) = true := by kernel_rfl
theorem dkTb {W : World} (h : laidMetH Tryz.prog Rows.fnDictStepsRow.laid W) : Tb W.heap.size W := by
  rw [MakeChecks.laidMetH_plain _ _ _ dkPlain] at h
  exact tbBy rfl (laidMet.reads h (.tail _ (.tail _ (.tail _ (.tail _ (.head _)))))) (laidMet.reads h (.tail _ (.tail _ (.tail _ (.tail _ (.tail _ (.tail _ (.tail _ (.tail _ (.head _)))))))))) (laidMet.reads h (.tail _ (.tail _ (.tail _ (.head _))))) (laidMet.reads h (.tail _ (.tail _ (.tail _ (.tail _ (.tail _ (.tail _ (.tail _ (.tail _ (.tail _ (.tail _ (.tail _ (.tail _ (.tail _ (.head _))))))))))))))) (laidMet.reads h (.tail _ (.tail _ (.tail _ (.tail _ (.tail _ (.tail _ (.head _)))))))) (laidMet.reads h (.tail _ (.tail _ (.tail _ (.tail _ (.tail _ (.head _))))))) (laidMet.reads h (.tail _ (.tail _ (.tail _ (.tail _ (.tail _ (.tail _ (.tail _ (.tail _ (.tail _ (.tail _ (.tail _ (.tail _ (.head _))))))))))))))
set_option maxHeartbeats 2000000 in
theorem dkFits (os : Os) : (World.holding Tryz.prog os ⟨#[], #[], []⟩).layFits Tryz.prog Rows.fnDictStepsRow.laid [] = true := by kernel_rfl
set_option maxHeartbeats 2000000 in
theorem dkIfaces (os : Os) : (World.holding Tryz.prog os ⟨#[], #[], []⟩).layIfaces Tryz.prog Rows.fnDictStepsRow.laid (World.laidAll Tryz.prog os Rows.fnDictStepsRow.laid) = true := by kernel_rfl
theorem dkMet (os : Os) (args : Array Value) : laidMetH Tryz.prog Rows.fnDictStepsRow.laid ((World.laidAll Tryz.prog os Rows.fnDictStepsRow.laid).forCall (fun _ _ => 0) ⟨#[], args, []⟩).memory := by
  rw [MakeChecks.laidMetH_plain _ _ _ dkPlain]
  exact laidMet_laidAll args (dkFits os) (dkIfaces os)
set_option maxRecDepth 100000 in
theorem dkLifted (os : Os) (started : os.Started) (H : Type) (enc : TypeId × Value → H) :
    ReturnsInHanded {} Tryz.checked os 5 .any (fun w args => (Rows.fnDictStepsSpec.pre enc Tryz.prog Tryz.f5 [] false w args ∧ laidMetH Tryz.prog Rows.fnDictStepsRow.laid w) ∧ sizedMet enc Tryz.prog Tryz.f5 (OpenSpec.ofChange Rows.fnDictStepsSpec) false w args)
      (Rows.fnDictStepsSpec.post enc Tryz.prog Tryz.f5 false true false false) := by
  refine returnsInHanded_of_change_and (C := Tryz.checked) (X := fun w _ => laidMetH Tryz.prog Rows.fnDictStepsRow.laid w) (fun _ _ _ hh h => h.of_heap hh) tOwn started (by kernel_rfl) Tryz.func5
    (ChangeSpec.witness_shaped (enc := enc) (C := Tryz.checked) (os := os) (X := fun w _ => laidMetH Tryz.prog Rows.fnDictStepsRow.laid w) false (World.laidAll Tryz.prog os Rows.fnDictStepsRow.laid) #[.agg #[.int .i64 0, .int .i64 0, .int .i64 0, .float .f64 0, .string ⟨#[]⟩, .slice none 0 0, .slice none 0 0], .slice none 0 0] 8 (World.laidAll_os _ _ _)
      (World.shaped_of_ZipB (by as_aux_lemma => kernel_rfl) (by as_aux_lemma => kernel_rfl)) (by as_aux_lemma => kernel_rfl) (by as_aux_lemma => kernel_rfl) (by as_aux_lemma => kernel_rfl)
      (dkMet os _)) ?_
  intro W base args ds gs before hval0 hW _ hsz hL _
  have hval : ∀ (j : Nat) t v, Tryz.f5.params[j]? = some t → args[j]? = some v → Value.okWide Tryz.prog W .any base t v := hval0
  have hW' := hW
  obtain ⟨p, q, hA0, hV, rfl, _, _⟩ := hW
  have hA : DataW.TrodAll enc Tryz.prog W 0 (fun _ => true) true Tryz.f5.params.toList args.toList ds p := hA0
  have hlt := hA.lt
  have hlen := varsLen hV
  rw [Tryz.params5] at hA hval
  obtain ⟨v0, v1, d0, d1, p0, p1, rfl, rfl, rfl, h0, h1⟩ := trodAll_two hA
  have hw : ∀ x ∈ d0.weights Tryz.prog 26, x ≤ reachBytes := fun x hx => by
    have := List.all_eq_true.1 hsz x (DataW.weights_mem_each (j := 0) (t := 26) rfl rfl x hx)
    exact of_decide_eq_true this
  have hw1 : ∀ x ∈ d1.weights Tryz.prog 42, x ≤ reachBytes := fun x hx => by
    have := List.all_eq_true.1 hsz x (DataW.weights_mem_each (j := 1) (t := 42) rfl rfl x hx)
    exact of_decide_eq_true this
  obtain ⟨k, i, g, r, s, keys, kids, ka, kc, a, cap, rfl, hn⟩ := openParam (hval 0 26 v0 rfl rfl) h0 hw
  obtain ⟨sa, sl, sc, rfl⟩ := okWide_slice Tryz.underlying42 (hval 1 42 v1 rfl rfl)
  have h1' := h1
  obtain ⟨fuel, hf⟩ := h1'
  obtain ⟨a', ss, cap', hcs, hss⟩ := openSteps hf hw1
  have hcs' : sa = a' ∧ sl = ss.length ∧ sc = cap' := by simpa [Value.cells] using hcs
  obtain ⟨rfl, rfl, rfl⟩ := hcs'
  have ht := dkTb hL
  clear hA0 hval0
  simp only at hW'
  match gs, hlen with
  | [], _ =>
  refine (law5 k i g r s keys kids ss W.heap.size ka kc a cap sa sc W hn hss ht (Nat.le_refl _)).mono fun e W' ⟨he, hk⟩ => ?_
  subst he
  have hb := hk.below
  exact ⟨_, rfl, _, _, _, [], p0 ++ p1, q, hW', trodAll_mk1 (shut_bool Tryz.underlying4 _), trodAll_mk2 (Below.trod tLaidOut tRead26 tRow26 h0 hb (fun x hx => hlt x (List.mem_append_left _ hx))) (Below.trod tLaidOut dkRead42 dkRow42 h1 hb (fun x hx => hlt x (List.mem_append_right _ hx))), Below.trodVars tLaidOut hb dkRowed hV, hb.frame _, fun h => by cases h⟩
set_option maxHeartbeats 2000000 in
theorem dkInst : decide (Tryz.f5.isInstance Tryz.prog Rows.fnDictStepsRow.origin Rows.fnDictStepsRow.targs) = true := by kernel_rfl
theorem FnDictSteps_holds : Rows.FnDictStepsSaid :=
  OpenClaim.holds_of_wide 5 Tryz.f5 rfl rfl rfl rfl rfl rfl rfl ⟨rfl, rfl, rfl, rfl, rfl⟩ rfl rfl rfl rfl rfl (by as_aux_lemma => kernel_rfl) Tryz.func5 fnDictStepsClosed
    (of_decide_eq_true dkInst) (by unfold Func.isWrapper; first | (rw [if_pos (by decide +kernel)]; kernel_rfl) | (rw [if_neg (by decide +kernel)]; exact ⟨rfl, rfl⟩))
    (fun os started H enc _ => dkLifted os started H enc)
#print axioms FnDictSteps_holds
end Go.Proofs.YtfkecmlmnhbmoaaGreatDoor
