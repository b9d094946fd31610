import Derived.Test.YtfkecmlmnhbmoaaGreatDoorDn
import Derived.Test.YtfkecmlmnhbmoaaGreatDoorRows
import Derived.Test.YtfkecmlmnhbmoaaGreatDoorFnDepthClosed
import Derived.ProofKit
import Derived.OpenShut
import Derived.LaidMore
import Derived.Lay
import Derived.OpenVars
import Derived.Stop.LaidErr
import Derived.Stop.Joined
namespace Go.Proofs.YtfkecmlmnhbmoaaGreatDoor
open Go.ChangeShapes Go.WideShapes Go.ChangeAt Go.RowKit
set_option maxHeartbeats 4000000
theorem depthOwn : ownKnob Tryz.prog.godebug = none := by kernel_rfl
theorem depthLaidOut : laidOutB Tryz.prog = true := by kernel_rfl
theorem depthRowed : varsRowed Tryz.prog Rows.fnDepthSpec.vars = true := by kernel_rfl
theorem depthG1 : Tryz.prog.globalNamed "given.example/pub-foolscap/pub/pdfcpu/pkg/pdfcpu/model.ErrMaxRecursionDepthExceeded" = some 1 := by kernel_rfl
theorem depthT1 : (Tryz.prog.globals[1]?).map (·.type) = some 84 := by kernel_rfl
theorem depthName : Tryz.prog.typeName? 3 171 = some "*errors.errorString" := by kernel_rfl
theorem depthPlain : (Rows.fnDepthRow.laid.all fun x => x.2.handleName?.isNone) = true := by kernel_rfl
theorem depthCells173 : Tryz.prog.cellsOf 173 = 1 := by kernel_rfl
theorem depthCells9 : Tryz.prog.cellsOf 9 = 1 := by kernel_rfl
theorem depthStar : "*" ++ "errors.errorString" = "*errors.errorString" := by decide
theorem depthRow171 (u : TypeId) (h : Tryz.prog.typeName? 3 u = some "*errors.errorString") : u = 171 :=
  typeName_ptr_named (nm := "errors.errorString") (by rw [depthStar]; kernel_rfl) (by kernel_rfl) (by decide) u (by rw [depthStar]; exact h)
/-- What the walk wants of the listed variables. -/
theorem depthErr {W : World} (h : laidMetH Tryz.prog Rows.fnDepthRow.laid W) : ∃ a0 : Addr, W.cell? ⟨1, 0, none⟩ = some (errV a0) := by
  rw [MakeChecks.laidMetH_plain _ _ _ depthPlain] at h
  have h24 := h.tail.tail.tail.tail.tail.tail.tail.tail.tail.tail.tail.tail.tail.tail.tail.tail.tail.tail.tail.tail.tail.tail.tail.tail
  obtain ⟨a, s, hv, _, _, _⟩ := laid_sentinel h24 depthG1 depthT1 Tryz.underlying84 depthRow171 Tryz.underlying171 Tryz.underlying173 rfl rfl Tryz.underlying9 depthCells173 depthCells9
  exact ⟨a, by simpa [errV] using World.var?_cell depthG1 hv 0⟩
theorem depthWalk (a b : Int) (a0 : Addr) (w : World) (hv : w.cell? ⟨1, 0, none⟩ = some (errV a0)) :
    Calls Tryz.prog 6 #[.int .i64 a, .int .i64 b] w fun e w' => e = .returned (.bool true) ∧ Kept [] w w' := by
  by_cases h : a < 1 ∨ 200 < a ∨ b < 1 ∨ 100 < b
  · exact law_out a b w h
  · exact law_in a b w a0 hv (by omega) (by omega) (by omega) (by omega)
theorem depthLen {H : Type} {enc : TypeId × Value → H} {P : Program} {W : World} {sp : Nat → Bool} : ∀ {ns : List String} {gs : List (DataW H)} {ps : List MemPlace}, DataW.TrodVars enc P W sp ns gs ps → gs.length = ns.length
  | [], [], _, _ => rfl
  | [], _ :: _, _, h => h.elim
  | _ :: _, [], _, h => h.elim
  | _ :: _, _ :: _, _, ⟨_, _, _, _, _, _, _, _, _, _, h, _⟩ => congrArg (· + 1) (depthLen h)
set_option maxHeartbeats 2000000 in
theorem depthFits (os : Os) : (World.holding Tryz.prog os ⟨#[], #[], []⟩).layFits Tryz.prog Rows.fnDepthRow.laid [] = true := by kernel_rfl
set_option maxHeartbeats 2000000 in
theorem depthIfaces (os : Os) : (World.holding Tryz.prog os ⟨#[], #[], []⟩).layIfaces Tryz.prog Rows.fnDepthRow.laid (World.laidAll Tryz.prog os Rows.fnDepthRow.laid) = true := by kernel_rfl
theorem depthMet (os : Os) (args : Array Value) : laidMetH Tryz.prog Rows.fnDepthRow.laid ((World.laidAll Tryz.prog os Rows.fnDepthRow.laid).forCall (fun _ _ => 0) ⟨#[], args, []⟩).memory := by
  rw [MakeChecks.laidMetH_plain _ _ _ depthPlain]
  exact laidMet_laidAll args (depthFits os) (depthIfaces os)
set_option maxRecDepth 100000 in
theorem depthLifted (os : Os) (started : os.Started) (H : Type) (enc : TypeId × Value → H) :
    ReturnsInHanded {} Tryz.checked os 6 .any (fun w args => (Rows.fnDepthSpec.pre enc Tryz.prog Tryz.f6 [] false w args ∧ laidMetH Tryz.prog Rows.fnDepthRow.laid w) ∧ sizedMet enc Tryz.prog Tryz.f6 (OpenSpec.ofChange Rows.fnDepthSpec) false w args)
      (Rows.fnDepthSpec.post enc Tryz.prog Tryz.f6 false true false false) := by
  refine returnsInHanded_of_change_and (C := Tryz.checked) (X := fun w _ => laidMetH Tryz.prog Rows.fnDepthRow.laid w) (fun _ _ _ hh h => h.of_heap hh) depthOwn started (by kernel_rfl) Tryz.func6
    (ChangeSpec.witness_shaped (enc := enc) (C := Tryz.checked) (os := os) (X := fun w _ => laidMetH Tryz.prog Rows.fnDepthRow.laid w) false (World.laidAll Tryz.prog os Rows.fnDepthRow.laid) #[.int .i64 0, .int .i64 0] 8 (World.laidAll_os _ _ _)
      (World.shaped_of_ZipB (by as_aux_lemma => kernel_rfl) (by as_aux_lemma => kernel_rfl)) (by as_aux_lemma => kernel_rfl) (by as_aux_lemma => kernel_rfl) (by as_aux_lemma => kernel_rfl)
      (depthMet os _)) ?_
  intro W base args ds gs before hval0 hW _ _ hL _
  have hval : ∀ (j : Nat) t v, Tryz.f6.params[j]? = some t → args[j]? = some v → Value.okWide Tryz.prog W .any base t v := hval0
  have hW' := hW
  obtain ⟨p, q, hA0, hV, rfl, _, _⟩ := hW
  have hA : DataW.TrodAll enc Tryz.prog W 0 (fun _ => true) true Tryz.f6.params.toList args.toList ds p := hA0
  rw [Tryz.params6] at hA hval
  obtain ⟨v0, v1, d0, d1, p0, p1, rfl, rfl, rfl, h0, h1⟩ := trodAll_two hA
  obtain ⟨a0, rfl, rfl, rfl, w0⟩ := open_int Tryz.underlying3 (hval 0 3 v0 rfl rfl) h0
  obtain ⟨a1, rfl, rfl, rfl, w1⟩ := open_int Tryz.underlying3 (hval 1 3 v1 rfl rfl) h1
  obtain ⟨e0, he0⟩ := depthErr hL
  clear hA0 hval0
  simp only [List.nil_append] at hW'
  have hlen := depthLen hV
  match gs, hlen with
  | [g1, g2, g3, g4, g5, g6, g7, g8, g9, g10, g11, g12], _ =>
  refine (depthWalk a0 a1 e0 W he0).mono fun e W' ⟨he, hk⟩ => ?_
  subst he
  have hb := hk.below
  exact ⟨_, rfl, _, _, _, [], [], q, hW', trodAll_mk1 (shut_bool Tryz.underlying4 _), trodAll_mk2 (shut_int Tryz.underlying3 w0) (shut_int Tryz.underlying3 w1), Below.trodVars depthLaidOut hb depthRowed hV, hb.frame _, fun h => by cases h⟩
set_option maxHeartbeats 2000000 in
theorem depthInst : decide (Tryz.f6.isInstance Tryz.prog Rows.fnDepthRow.origin Rows.fnDepthRow.targs) = true := by kernel_rfl
theorem FnDepth_holds : Rows.FnDepthSaid :=
  OpenClaim.holds_of_wide 6 Tryz.f6 rfl rfl rfl rfl rfl rfl rfl ⟨rfl, rfl, rfl, rfl, rfl⟩ rfl rfl rfl rfl rfl (by as_aux_lemma => kernel_rfl) Tryz.func6 fnDepthClosed
    (of_decide_eq_true depthInst) (by unfold Func.isWrapper; first | (rw [if_pos (by decide +kernel)]; kernel_rfl) | (rw [if_neg (by decide +kernel)]; exact ⟨rfl, rfl⟩))
    (fun os started H enc _ => depthLifted os started H enc)
#print axioms FnDepth_holds
end Go.Proofs.YtfkecmlmnhbmoaaGreatDoor
