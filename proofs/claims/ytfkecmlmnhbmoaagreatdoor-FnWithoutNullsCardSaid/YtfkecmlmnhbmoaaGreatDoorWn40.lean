import Derived.Test.YtfkecmlmnhbmoaaGreatDoorWn34
import Derived.Test.YtfkecmlmnhbmoaaGreatDoorWn37
import Derived.Test.YtfkecmlmnhbmoaaGreatDoorRows
import Derived.Test.YtfkecmlmnhbmoaaGreatDoorWn39
namespace Go.Proofs.YtfkecmlmnhbmoaaGreatDoor
open Go.ChangeShapes Go.WideShapes Go.ChangeAt Go.RowKit Go.Lib
set_option maxHeartbeats 4000000
theorem wnRowed : varsRowed Tryz.prog Rows.fnWithoutNullsSpec.vars = true := by kernel_rfl
theorem wnPlain : (Rows.fnWithoutNullsRow.laid.all fun x => x.2.handleName?.isNone) = true := by kernel_rfl
theorem wnTb {W : World} (h : laidMetH Tryz.prog Rows.fnWithoutNullsRow.laid W) : Tb W.heap.size W := by
  rw [MakeChecks.laidMetH_plain _ _ _ wnPlain] at h
  exact tbBy rfl (laidMet.reads h (.tail _ (.tail _ (.tail _ (.tail _ (.head _))))))
    (laidMet.reads h (.tail _ (.tail _ (.tail _ (.tail _ (.tail _ (.tail _ (.tail _ (.tail _ (.head _))))))))))
    (laidMet.reads h (.tail _ (.tail _ (.tail _ (.head _)))))
    (laidMet.reads h (.tail _ (.tail _ (.tail _ (.tail _ (.tail _ (.tail _ (.tail _ (.tail _ (.tail _ (.tail _ (.tail _ (.tail _ (.head _))))))))))))))
    (laidMet.reads h (.tail _ (.tail _ (.tail _ (.tail _ (.tail _ (.tail _ (.head _))))))))
    (laidMet.reads h (.tail _ (.tail _ (.tail _ (.tail _ (.tail _ (.head _)))))))
    (laidMet.reads h (.tail _ (.tail _ (.tail _ (.tail _ (.tail _ (.tail _ (.tail _ (.tail _ (.tail _ (.tail _ (.tail _ (.head _)))))))))))))
set_option maxHeartbeats 2000000 in
theorem wnFits (os : Os) : (World.holding Tryz.prog os ⟨#[], #[], []⟩).layFits Tryz.prog Rows.fnWithoutNullsRow.laid [] = true := by kernel_rfl
set_option maxHeartbeats 2000000 in
theorem wnIfaces (os : Os) : (World.holding Tryz.prog os ⟨#[], #[], []⟩).layIfaces Tryz.prog Rows.fnWithoutNullsRow.laid (World.laidAll Tryz.prog os Rows.fnWithoutNullsRow.laid) = true := by kernel_rfl
theorem wnMet (os : Os) (args : Array Value) : laidMetH Tryz.prog Rows.fnWithoutNullsRow.laid ((World.laidAll Tryz.prog os Rows.fnWithoutNullsRow.laid).forCall (fun _ _ => 0) ⟨#[], args, []⟩).memory := by
  rw [MakeChecks.laidMetH_plain _ _ _ wnPlain]
  exact laidMet_laidAll args (wnFits os) (wnIfaces os)
set_option maxRecDepth 100000 in
theorem wnLifted (os : Os) (started : os.Started) (H : Type) (enc : TypeId × Value → H) :
    ReturnsInHanded {} Tryz.checked os 4 .any (fun w args => (Rows.fnWithoutNullsSpec.pre enc Tryz.prog Tryz.f4 [] false w args ∧ laidMetH Tryz.prog Rows.fnWithoutNullsRow.laid w) ∧ sizedMet enc Tryz.prog Tryz.f4 (OpenSpec.ofChange Rows.fnWithoutNullsSpec) false w args)
      (Rows.fnWithoutNullsSpec.post enc Tryz.prog Tryz.f4 false true false false) := by
  refine returnsInHanded_of_change_and (C := Tryz.checked) (X := fun w _ => laidMetH Tryz.prog Rows.fnWithoutNullsRow.laid w) (fun _ _ _ hh h => h.of_heap hh) tOwn started (by kernel_rfl) Tryz.func4
    (ChangeSpec.witness_shaped (enc := enc) (C := Tryz.checked) (os := os) (X := fun w _ => laidMetH Tryz.prog Rows.fnWithoutNullsRow.laid w) false (World.laidAll Tryz.prog os Rows.fnWithoutNullsRow.laid) #[.agg #[.int .i64 0, .int .i64 0, .int .i64 0, .float .f64 0, .string ⟨#[]⟩, .slice none 0 0, .slice none 0 0]] 8 (World.laidAll_os _ _ _)
      (World.shaped_of_ZipB (by as_aux_lemma => kernel_rfl) (by as_aux_lemma => kernel_rfl)) (by as_aux_lemma => kernel_rfl) (by as_aux_lemma => kernel_rfl) (by as_aux_lemma => kernel_rfl)
      (wnMet os _)) ?_
  intro W base args ds gs before hval0 hW _ hsz hL _
  have hval : ∀ (j : Nat) t v, Tryz.f4.params[j]? = some t → args[j]? = some v → Value.okWide Tryz.prog W .any base t v := hval0
  have hW' := hW
  obtain ⟨p, q, hA0, hV, rfl, _, _⟩ := hW
  have hA : DataW.TrodAll enc Tryz.prog W 0 (fun _ => true) true Tryz.f4.params.toList args.toList ds p := hA0
  have hlt := hA.lt
  have hlen := varsLen hV
  rw [Tryz.params4] at hA hval
  obtain ⟨v0, d0, rfl, rfl, h0⟩ := trodAll_one hA
  have hw : ∀ x ∈ d0.weights Tryz.prog 26, x ≤ reachBytes := fun x hx => by
    have := List.all_eq_true.1 hsz x (DataW.weights_mem_each (j := 0) (t := 26) rfl rfl x hx)
    exact of_decide_eq_true this
  obtain ⟨k, i, g, r, s, keys, kids, ka, kc, a, cap, rfl, hn⟩ := openParam (hval 0 26 v0 rfl rfl) h0 hw
  have ht := wnTb hL
  clear hA0 hval0
  simp only at hW'
  match gs, hlen with
  | [], _ =>
  refine (law4 k i g r s keys kids W.heap.size ka kc a cap W hn ht (Nat.le_refl _)).mono fun e W' ⟨he, hk⟩ => ?_
  subst he
  have hb := hk.below
  exact ⟨_, rfl, _, _, _, [], p, q, hW', trodAll_mk1 (shut_bool Tryz.underlying4 _), trodAll_mk1 (Below.trod tLaidOut tRead26 tRow26 h0 hb hlt), Below.trodVars tLaidOut hb wnRowed hV, hb.frame _, fun h => by cases h⟩
set_option maxHeartbeats 2000000 in
theorem wnInst : decide (Tryz.f4.isInstance Tryz.prog Rows.fnWithoutNullsRow.origin Rows.fnWithoutNullsRow.targs) = true := by kernel_rfl
theorem FnWithoutNulls_holds : Rows.FnWithoutNullsSaid :=
  OpenClaim.holds_of_wide 4 Tryz.f4 rfl rfl rfl rfl rfl rfl rfl ⟨rfl, rfl, rfl, rfl, rfl⟩ rfl rfl rfl rfl rfl (by as_aux_lemma => kernel_rfl) Tryz.func4 fnWithoutNullsClosed
    (of_decide_eq_true wnInst) (by unfold Func.isWrapper; first | (rw [if_pos (by decide +kernel)]; kernel_rfl) | (rw [if_neg (by decide +kernel)]; exact ⟨rfl, rfl⟩))
    (fun os started H enc _ => wnLifted os started H enc)
#print axioms FnWithoutNulls_holds
end Go.Proofs.YtfkecmlmnhbmoaaGreatDoor
