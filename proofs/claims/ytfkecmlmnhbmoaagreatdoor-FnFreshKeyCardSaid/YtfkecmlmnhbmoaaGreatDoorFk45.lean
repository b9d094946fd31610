import Derived.Test.YtfkecmlmnhbmoaaGreatDoorFk42
import Derived.Test.YtfkecmlmnhbmoaaGreatDoorFk44
import Derived.Test.YtfkecmlmnhbmoaaGreatDoorFk22
namespace Go.Proofs.YtfkecmlmnhbmoaaGreatDoor
open Go.RowKit
theorem subS {x y r : Nat} (h : floatBits .sub .f64 x y = some r) (t : TypeId) (w : World) : (binOp .sub t (.float .f64 x) (.float .f64 y)).run Tryz.prog w = .ok (.float .f64 r) w := run_float_arith w .sub t .f64 x y r h
/-- A real that is one but for a NaN's bits is equal to another one, or not. -/
theorem One.eq {Q : Nat → Prop} (hQ : One Q) (f : Nat) : ∃ b : Bool, ∀ r, Q r → (FloatKind.f64.format.order r f == some .eq) = b := by
  by_cases h : ∃ r, Q r
  · obtain ⟨r0, h0⟩ := h
    refine ⟨FloatKind.f64.format.order r0 f == some .eq, fun r hr => ?_⟩
    rcases hQ r r0 hr h0 with rfl | ⟨h1, h2⟩
    · rfl
    · rw [show FloatKind.f64.format.order r f = none from nan_order h1 f, show FloatKind.f64.format.order r0 f = none from nan_order h2 f]
  · exact ⟨false, fun r hr => absurd ⟨r, hr⟩ h⟩
set_option maxRecDepth 100000 in
set_option maxHeartbeats 4000000 in
theorem twelveF (f N : Nat) (W0 : World) (hf : f < 18446744073709551616) (ht0 : Tb N W0) (hN0 : N ≤ W0.heap.size) : ∃ b : Bool, (b = true → ¬ isNan f) ∧ ∀ w, Kept [] W0 w →
    Calls Tryz.prog 42 #[.float .f64 f] w fun e w' => e = .returned (.bool b) ∧ Kept [] w w' := by
  cases hs : floatBits .sub .f64 f f with
  | none =>
    refine ⟨false, fun h => (by cases h), fun w hkw => ?_⟩
    have hsub := fun t x y w => fl_run .sub subOk t x y w
    have hb1 : (FloatKind.f64.format.order (flR .sub subOk 22 f f w) 0 != some .eq) = true := by
      have h3 : FloatKind.f64.format.order (flR .sub subOk 22 f f w) 0 = none := nan_order (fl_nan .sub subOk 22 f f w hs) 0
      rw [h3]; decide
    clear hs
    go_enter Tryz.func42, Tryz.ntmps42
    go_wp2_with fail
    go_ret
    exact ⟨rfl, (Kept.refl [] w).drewN _⟩
  | some d =>
    have hn : ¬ isNan f := fun h => by rw [sub_nan h] at hs; cases hs
    have hsub := subS hs
    clear hs
    cases hb1 : (FloatKind.f64.format.order d 0 != some .eq)
    · cases hb2 : (FloatKind.f64.format.order f 4816244402031689728 == some .gt || FloatKind.f64.format.order f 4816244402031689728 == some .eq)
      · cases hb3 : (FloatKind.f64.format.order f 14039616438886465536 == some .lt || FloatKind.f64.format.order f 14039616438886465536 == some .eq)
        · have hE := exp_small hf hn hb2 hb3
          obtain ⟨bs, L, neg, ⟨hfr, hl1, hl2⟩, hF⟩ := fmt68F f N W0 ht0.tabs hN0 hf hE
          obtain ⟨g, hnum⟩ := frac_num hfr hl1 hl2
          obtain ⟨s, hs⟩ : ∃ s, strOfNums bs = s := ⟨_, rfl⟩
          rw [hs] at hnum hF
          obtain ⟨Q, hQ, hP⟩ := pfloatF s g L N W0 hnum ht0 hN0
          obtain ⟨b, hb⟩ := hQ.eq f
          refine ⟨b, fun _ => hn, fun w hkw => ?_⟩
          have HF := Lib.hid hF; have HP := Lib.hid hP; have HB := Lib.hid hb; clear hF hP hb hs hn hfr hnum
          go_enter Tryz.func42, Tryz.ntmps42
          go_wp2_with fail
          refine (HF.out _ hkw).mono ?_
          rintro e w2 ⟨rfl, hk2⟩
          have hkw2 : Kept [] W0 w2 := Kept.trans hkw hk2 (by simp) (by simp)
          go_wp2_with fail
          refine (HP.out _ hkw2).mono ?_
          rintro e w3 ⟨⟨r, rfl, hr⟩, hk3⟩
          have hK3 := Kept.trans (Z := []) hk2 hk3 (by simp) (by simp)
          have hbr := HB.out r hr
          have HBR := Lib.hid hbr; clear hbr
          go_wp2_with fail
          go_ret
          exact ⟨(by rw [← HBR.out]; first | done | rfl), hK3⟩
        · skip
          refine ⟨false, (fun h => by cases h), fun w hkw => ?_⟩
          go_enter Tryz.func42, Tryz.ntmps42
          go_wp2_with fail
          go_ret
          exact ⟨rfl, Kept.refl [] w⟩
      · skip
        refine ⟨false, (fun h => by cases h), fun w hkw => ?_⟩
        go_enter Tryz.func42, Tryz.ntmps42
        go_wp2_with fail
        go_ret
        exact ⟨rfl, Kept.refl [] w⟩
    · skip
      refine ⟨false, (fun h => by cases h), fun w hkw => ?_⟩
      go_enter Tryz.func42, Tryz.ntmps42
      go_wp2_with fail
      go_ret
      exact ⟨rfl, Kept.refl [] w⟩
end Go.Proofs.YtfkecmlmnhbmoaaGreatDoor
