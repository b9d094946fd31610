import Derived.Test.YtfkecmlmnhbmoaaGreatDoorFk48
import Derived.Test.YtfkecmlmnhbmoaaGreatDoorFk51
import Derived.Test.YtfkecmlmnhbmoaaGreatDoorRows
import Derived.Test.YtfkecmlmnhbmoaaGreatDoorFk53
namespace Go.Proofs.YtfkecmlmnhbmoaaGreatDoor
open Go.ChangeShapes Go.WideShapes Go.ChangeAt Go.RowKit Go.Lib
open Go.ChangeMaps (open_string shut_string)
set_option maxHeartbeats 4000000
theorem fyRowed : varsRowed Tryz.prog Rows.fnFreshKeySpec.vars = true := by kernel_rfl
theorem fyPlain : (Rows.fnFreshKeyRow.laid.all fun x => x.2.handleName?.isNone) = true := by kernel_rfl
theorem fyTb {W : World} (h : laidMetH Tryz.prog Rows.fnFreshKeyRow.laid W) : Tb W.heap.size W := by
  rw [MakeChecks.laidMetH_plain _ _ _ fyPlain] at h
  exact tbBy rfl (laidMet.reads h (.tail _ (.tail _ (.tail _ (.tail _ (.head _)))))) (laidMet.reads h (.tail _ (.tail _ (.tail _ (.tail _ (.tail _ (.tail _ (.tail _ (.tail _ (.head _)))))))))) (laidMet.reads h (.tail _ (.tail _ (.tail _ (.head _))))) (laidMet.reads h (.tail _ (.tail _ (.tail _ (.tail _ (.tail _ (.tail _ (.tail _ (.tail _ (.tail _ (.tail _ (.tail _ (.tail _ (.tail _ (.head _))))))))))))))) (laidMet.reads h (.tail _ (.tail _ (.tail _ (.tail _ (.tail _ (.tail _ (.head _)))))))) (laidMet.reads h (.tail _ (.tail _ (.tail _ (.tail _ (.tail _ (.head _))))))) (laidMet.reads h (.tail _ (.tail _ (.tail _ (.tail _ (.tail _ (.tail _ (.tail _ (.tail _ (.tail _ (.tail _ (.tail _ (.tail _ (.head _))))))))))))))
set_option maxHeartbeats 2000000 in
theorem fyFits (os : Os) : (World.holding Tryz.prog os ⟨#[], #[], []⟩).layFits Tryz.prog Rows.fnFreshKeyRow.laid [] = true := by kernel_rfl
set_option maxHeartbeats 2000000 in
theorem fyIfaces (os : Os) : (World.holding Tryz.prog os ⟨#[], #[], []⟩).layIfaces Tryz.prog Rows.fnFreshKeyRow.laid (World.laidAll Tryz.prog os Rows.fnFreshKeyRow.laid) = true := by kernel_rfl
theorem fyMet (os : Os) (args : Array Value) : laidMetH Tryz.prog Rows.fnFreshKeyRow.laid ((World.laidAll Tryz.prog os Rows.fnFreshKeyRow.laid).forCall (fun _ _ => 0) ⟨#[], args, []⟩).memory := by
  rw [MakeChecks.laidMetH_plain _ _ _ fyPlain]
  exact laidMet_laidAll args (fyFits os) (fyIfaces os)
set_option maxRecDepth 100000 in
theorem fyLifted (os : Os) (started : os.Started) (H : Type) (enc : TypeId × Value → H) :
    ReturnsInHanded {} Tryz.checked os 3 .any (fun w args => (Rows.fnFreshKeySpec.pre enc Tryz.prog Tryz.f3 [] false w args ∧ laidMetH Tryz.prog Rows.fnFreshKeyRow.laid w) ∧ sizedMet enc Tryz.prog Tryz.f3 (OpenSpec.ofChange Rows.fnFreshKeySpec) false w args)
      (Rows.fnFreshKeySpec.post enc Tryz.prog Tryz.f3 false true false false) := by
  refine returnsInHanded_of_change_and (C := Tryz.checked) (X := fun w _ => laidMetH Tryz.prog Rows.fnFreshKeyRow.laid w) (fun _ _ _ hh h => h.of_heap hh) tOwn started (by kernel_rfl) Tryz.func3
    (ChangeSpec.witness_shaped (enc := enc) (C := Tryz.checked) (os := os) (X := fun w _ => laidMetH Tryz.prog Rows.fnFreshKeyRow.laid w) false (World.laidAll Tryz.prog os Rows.fnFreshKeyRow.laid) #[.agg #[.int .i64 0, .int .i64 0, .int .i64 0, .float .f64 0, .string ⟨#[]⟩, .slice none 0 0, .slice none 0 0], .string ⟨#[]⟩, .int .i64 0] 8 (World.laidAll_os _ _ _)
      (World.shaped_of_ZipB (by as_aux_lemma => kernel_rfl) (by as_aux_lemma => kernel_rfl)) (by as_aux_lemma => kernel_rfl) (by as_aux_lemma => kernel_rfl) (by as_aux_lemma => kernel_rfl)
      (fyMet os _)) ?_
  intro W base args ds gs before hval0 hW _ hsz hL _
  have hval : ∀ (j : Nat) t v, Tryz.f3.params[j]? = some t → args[j]? = some v → Value.okWide Tryz.prog W .any base t v := hval0
  have hW' := hW
  obtain ⟨p, q, hA0, hV, rfl, _, _⟩ := hW
  have hA : DataW.TrodAll enc Tryz.prog W 0 (fun _ => true) true Tryz.f3.params.toList args.toList ds p := hA0
  have hlt := hA.lt
  have hlen := varsLen hV
  rw [Tryz.params3] at hA hval
  obtain ⟨v0, v1, v2, d0, d1, d2, p0, p1, p2, rfl, rfl, rfl, h0, h1, h2⟩ := trodAll_three hA
  have hw : ∀ x ∈ d0.weights Tryz.prog 26, x ≤ reachBytes := fun x hx => by
    have := List.all_eq_true.1 hsz x (DataW.weights_mem_each (j := 0) (t := 26) rfl rfl x hx)
    exact of_decide_eq_true this
  have hw1 : ∀ x ∈ d1.weights Tryz.prog 9, x ≤ reachBytes := fun x hx => by
    have := List.all_eq_true.1 hsz x (DataW.weights_mem_each (j := 1) (t := 9) rfl rfl x hx)
    exact of_decide_eq_true this
  obtain ⟨k, i, g, r, s, keys, kids, ka, kc, a, cap, rfl, hn⟩ := openParam (hval 0 26 v0 rfl rfl) h0 hw
  obtain ⟨pre, rfl, rfl, rfl, hpm⟩ := open_string Tryz.underlying9 (hval 1 9 v1 rfl rfl) h1
  obtain ⟨f, rfl, rfl, rfl, hwf⟩ := open_int Tryz.underlying3 (hval 2 3 v2 rfl rfl) h2
  have hps : pre.size ≤ 140737488351232 := by
    have := hw1 pre.data.toList.length (by simp [DataW.weights])
    unfold reachBytes at this
    rw [Array.length_toList] at this
    exact this
  have ht := fyTb hL
  clear hA0 hval0
  simp only [List.append_nil] at hW'
  simp only [List.append_nil] at hlt
  match gs, hlen with
  | [], _ =>
  refine (law3 k i g r s keys kids W.heap.size ka kc a cap pre f W hn ht (Nat.le_refl _) hps (lit64 hwf)).mono fun e W' ⟨he, hk⟩ => ?_
  subst he
  have hb := hk.below
  have hta := trodAll_mk3 (Below.trod tLaidOut tRead26 tRow26 h0 hb hlt) (shut_string Tryz.underlying9 hpm) (shut_int Tryz.underlying3 hwf)
  simp only [List.append_nil] at hta
  exact ⟨_, rfl, _, _, _, [], p0, q, hW', trodAll_mk1 (shut_bool Tryz.underlying4 _), hta, Below.trodVars tLaidOut hb fyRowed hV, hb.frame _, fun h => by cases h⟩
set_option maxHeartbeats 2000000 in
theorem fyInst : decide (Tryz.f3.isInstance Tryz.prog Rows.fnFreshKeyRow.origin Rows.fnFreshKeyRow.targs) = true := by kernel_rfl
theorem FnFreshKey_holds : Rows.FnFreshKeySaid :=
  OpenClaim.holds_of_wide 3 Tryz.f3 rfl rfl rfl rfl rfl rfl rfl ⟨rfl, rfl, rfl, rfl, rfl⟩ rfl rfl rfl rfl rfl (by as_aux_lemma => kernel_rfl) Tryz.func3 fnFreshKeyClosed
    (of_decide_eq_true fyInst) (by unfold Func.isWrapper; first | (rw [if_pos (by decide +kernel)]; kernel_rfl) | (rw [if_neg (by decide +kernel)]; exact ⟨rfl, rfl⟩))
    (fun os started H enc _ => fyLifted os started H enc)
#print axioms FnFreshKey_holds
end Go.Proofs.YtfkecmlmnhbmoaaGreatDoor
