import Derived.Test.YtfkecmlmnhbmoaaGreatDoorFk30
import Derived.Test.YtfkecmlmnhbmoaaGreatDoorFk33
import Derived.Test.YtfkecmlmnhbmoaaGreatDoorFk10
namespace Go.Proofs.YtfkecmlmnhbmoaaGreatDoor
open Go.RowKit
/-- A real, known but for a NaN's bits. -/
def One (Q : Nat → Prop) : Prop := ∀ r r', Q r → Q r' → r = r' ∨ (isNan r ∧ isNan r')
theorem one_eq (v : Nat) : One fun r => r = v := fun _r _r' h k => .inl (h.trans k.symm)
theorem one_nan : One isNan := fun _ _ h k => .inr ⟨h, k⟩
theorem mulS {x y r : Nat} (h : floatBits .mul .f64 x y = some r) (t : TypeId) (w : World) : (binOp .mul t (.float .f64 x) (.float .f64 y)).run Tryz.prog w = .ok (.float .f64 r) w := run_float_arith w .mul t .f64 x y r h
theorem quoS {x y r : Nat} (h : floatBits .quo .f64 x y = some r) (t : TypeId) (w : World) : (binOp .quo t (.float .f64 x) (.float .f64 y)).run Tryz.prog w = .ok (.float .f64 r) w := run_float_arith w .quo t .f64 x y r h
theorem mul_nan {f : Nat} (h : isNan f) (y : Nat) : floatBits .mul .f64 f y = none := by
  obtain ⟨s, t, h⟩ := h
  show (Ieee.double.mul f y) = none
  unfold Ieee.Format.mul
  rw [h]
  rfl
set_option maxRecDepth 100000 in
set_option maxHeartbeats 8000000 in
theorem exact64F (m : Nat) (x : Int) (ng : Bool) (N : Nat) (W0 : World) (ht : Tabs N W0) (hp : Pow N W0) (hN : N ≤ W0.heap.size) (hm : m < 10000000000000000000) (hx1 : -300 ≤ x) (hx2 : x ≤ 200) :
    ∃ (eb : Bool) (Q : Nat → Prop), One Q ∧ ∀ w : World, Kept [] W0 w → Calls Tryz.prog 190 #[.int .u64 m, .int .i64 x, .bool ng] w fun e w' => ∃ r, e = .returned (.tuple #[.float .f64 r, .bool eb]) ∧ Q r ∧ ∃ k, w' = w.drewN k := by
  obtain ⟨b, o, hb, hP, hc⟩ := hp.fp
  obtain ⟨tb, htb⟩ : ∃ tb : Nat → Nat, ∀ i, i < 23 → W0.cell? ⟨b, o + i, none⟩ = some (.float .f64 (tb i)) :=
    ⟨fun i => if h : i < 23 then Classical.choose (hc i h) else 0, fun i hi => by simp only [dif_pos hi]; exact Classical.choose_spec (hc i hi)⟩
  have HTB := Lib.hid htb; clear htb hc
  by_cases hbig : m < 4503599627370496
  · have zb : ((m : Int) / 4503599627370496 != 0) = false := by rw [bne_eq_false_iff_eq]; omega
    cases ng
    · obtain ⟨F, hF⟩ : ∃ F, floatOfInt FloatKind.f64 (m : Int) = F := ⟨_, rfl⟩
      by_cases h0 : x = 0
      · subst h0
        refine ⟨true, fun r => r = F, one_eq _, ?_⟩
        intro w hkw
        have cI := (hkw.tabs ht hN).info0
        have cP := (hkw.cell (b := 23) (o := 0) (by have := ht.low; omega) (by simp)).trans hP
        have cc : ∀ i, i < 23 → w.cell? ⟨b, o + i, none⟩ = some (.float .f64 (tb i)) := fun i hi => (hkw.cell (by omega) (by simp)).trans (HTB.out i hi)
        have HCC := Lib.hid cc; clear cc
        go_enter Tryz.func190, Tryz.ntmps190
        go_wp2_with fail
        go_ret2
        exact ⟨_, rfl, rfl, 0, rfl⟩
      · have z0 : (x == 0) = false := beq_eq_false_iff_ne.2 h0
        by_cases hpos : 0 < x
        · by_cases h37 : x ≤ 37
          · by_cases h22 : 22 < x
            · cases hm1 : floatBits .mul .f64 F (tb (x - 22).toNat) with
              | none =>
                refine ⟨true, isNan, one_nan, ?_⟩
                intro w hkw
                have cI := (hkw.tabs ht hN).info0
                have cP := (hkw.cell (b := 23) (o := 0) (by have := ht.low; omega) (by simp)).trans hP
                have cc : ∀ i, i < 23 → w.cell? ⟨b, o + i, none⟩ = some (.float .f64 (tb i)) := fun i hi => (hkw.cell (by omega) (by simp)).trans (HTB.out i hi)
                have HCC := Lib.hid cc; clear cc
                have c1 := HCC.out (x - 22).toNat (by omega)
                have c2 := HCC.out 22 (by omega)
                have hn1 := fl_nan .mul mulOk 22 F (tb (x - 22).toNat) w hm1
                have ho1 : FloatKind.f64.format.order (flR .mul mulOk 22 F (tb (x - 22).toNat) w) 4831355200913801216 = none := nan_order hn1 _
                have ho2 : FloatKind.f64.format.order (flR .mul mulOk 22 F (tb (x - 22).toNat) w) 14054727237768577024 = none := nan_order hn1 _
                have hn2 := fun W => fl_nan .mul mulOk 22 (flR .mul mulOk 22 F (tb (x - 22).toNat) w) (tb 22) W (mul_nan hn1 _)
                have hmul := fun t x y w => fl_run .mul mulOk t x y w
                have HN2 := Lib.hid hn2; clear hn2 hn1 hm1
                go_enter Tryz.func190, Tryz.ntmps190
                go_wp2_with fail
                go_ret2
                exact ⟨_, rfl, HN2.out _, _, rfl⟩
              | some f1 =>
                have hr1 := mulS hm1
                clear hm1
                cases hg : (FloatKind.f64.format.order f1 4831355200913801216 == some .gt)
                · cases hl : (FloatKind.f64.format.order f1 14054727237768577024 == some .lt)
                  · cases hm2 : floatBits .mul .f64 f1 (tb 22) with
                    | none =>
                      refine ⟨true, isNan, one_nan, ?_⟩
                      intro w hkw
                      have cI := (hkw.tabs ht hN).info0
                      have cP := (hkw.cell (b := 23) (o := 0) (by have := ht.low; omega) (by simp)).trans hP
                      have cc : ∀ i, i < 23 → w.cell? ⟨b, o + i, none⟩ = some (.float .f64 (tb i)) := fun i hi => (hkw.cell (by omega) (by simp)).trans (HTB.out i hi)
                      have HCC := Lib.hid cc; clear cc
                      have c1 := HCC.out (x - 22).toNat (by omega)
                      have c2 := HCC.out 22 (by omega)
                      have hn2 := fl_nan .mul mulOk 22 f1 (tb 22) w hm2
                      have hmul := fun t w => fl_run .mul mulOk t f1 (tb 22) w
                      have HN2 := Lib.hid hn2; clear hn2 hm2
                      go_enter Tryz.func190, Tryz.ntmps190
                      go_wp2_with fail
                      go_ret2
                      exact ⟨_, rfl, HN2.out, _, rfl⟩
                    | some f2 =>
                      have hr2 := mulS hm2
                      clear hm2
                      refine ⟨true, fun r => r = f2, one_eq _, ?_⟩
                      intro w hkw
                      have cI := (hkw.tabs ht hN).info0
                      have cP := (hkw.cell (b := 23) (o := 0) (by have := ht.low; omega) (by simp)).trans hP
                      have cc : ∀ i, i < 23 → w.cell? ⟨b, o + i, none⟩ = some (.float .f64 (tb i)) := fun i hi => (hkw.cell (by omega) (by simp)).trans (HTB.out i hi)
                      have HCC := Lib.hid cc; clear cc
                      have c1 := HCC.out (x - 22).toNat (by omega)
                      have c2 := HCC.out 22 (by omega)
                      go_enter Tryz.func190, Tryz.ntmps190
                      go_wp2_with fail
                      go_ret2
                      exact ⟨_, rfl, rfl, 0, rfl⟩
                  · refine ⟨false, fun r => r = f1, one_eq _, ?_⟩
                    intro w hkw
                    have cI := (hkw.tabs ht hN).info0
                    have cP := (hkw.cell (b := 23) (o := 0) (by have := ht.low; omega) (by simp)).trans hP
                    have cc : ∀ i, i < 23 → w.cell? ⟨b, o + i, none⟩ = some (.float .f64 (tb i)) := fun i hi => (hkw.cell (by omega) (by simp)).trans (HTB.out i hi)
                    have HCC := Lib.hid cc; clear cc
                    have c1 := HCC.out (x - 22).toNat (by omega)
                    go_enter Tryz.func190, Tryz.ntmps190
                    go_wp2_with fail
                    go_ret2
                    exact ⟨_, rfl, rfl, 0, rfl⟩
                · refine ⟨false, fun r => r = f1, one_eq _, ?_⟩
                  intro w hkw
                  have cI := (hkw.tabs ht hN).info0
                  have cP := (hkw.cell (b := 23) (o := 0) (by have := ht.low; omega) (by simp)).trans hP
                  have cc : ∀ i, i < 23 → w.cell? ⟨b, o + i, none⟩ = some (.float .f64 (tb i)) := fun i hi => (hkw.cell (by omega) (by simp)).trans (HTB.out i hi)
                  have HCC := Lib.hid cc; clear cc
                  have c1 := HCC.out (x - 22).toNat (by omega)
                  go_enter Tryz.func190, Tryz.ntmps190
                  go_wp2_with fail
                  go_ret2
                  exact ⟨_, rfl, rfl, 0, rfl⟩
            · cases hg : (FloatKind.f64.format.order F 4831355200913801216 == some .gt)
              · cases hl : (FloatKind.f64.format.order F 14054727237768577024 == some .lt)
                · cases hm2 : floatBits .mul .f64 F (tb x.toNat) with
                  | none =>
                    refine ⟨true, isNan, one_nan, ?_⟩
                    intro w hkw
                    have cI := (hkw.tabs ht hN).info0
                    have cP := (hkw.cell (b := 23) (o := 0) (by have := ht.low; omega) (by simp)).trans hP
                    have cc : ∀ i, i < 23 → w.cell? ⟨b, o + i, none⟩ = some (.float .f64 (tb i)) := fun i hi => (hkw.cell (by omega) (by simp)).trans (HTB.out i hi)
                    have HCC := Lib.hid cc; clear cc
                    have c2 := HCC.out x.toNat (by omega)
                    have hn2 := fl_nan .mul mulOk 22 F (tb x.toNat) w hm2
                    have hmul := fun t w => fl_run .mul mulOk t F (tb x.toNat) w
                    have HN2 := Lib.hid hn2; clear hn2 hm2
                    go_enter Tryz.func190, Tryz.ntmps190
                    go_wp2_with fail
                    go_ret2
                    exact ⟨_, rfl, HN2.out, _, rfl⟩
                  | some f2 =>
                    have hr2 := mulS hm2
                    clear hm2
                    refine ⟨true, fun r => r = f2, one_eq _, ?_⟩
                    intro w hkw
                    have cI := (hkw.tabs ht hN).info0
                    have cP := (hkw.cell (b := 23) (o := 0) (by have := ht.low; omega) (by simp)).trans hP
                    have cc : ∀ i, i < 23 → w.cell? ⟨b, o + i, none⟩ = some (.float .f64 (tb i)) := fun i hi => (hkw.cell (by omega) (by simp)).trans (HTB.out i hi)
                    have HCC := Lib.hid cc; clear cc
                    have c2 := HCC.out x.toNat (by omega)
                    go_enter Tryz.func190, Tryz.ntmps190
                    go_wp2_with fail
                    go_ret2
                    exact ⟨_, rfl, rfl, 0, rfl⟩
                · skip
                  refine ⟨false, fun r => r = F, one_eq _, ?_⟩
                  intro w hkw
                  have cI := (hkw.tabs ht hN).info0
                  have cP := (hkw.cell (b := 23) (o := 0) (by have := ht.low; omega) (by simp)).trans hP
                  have cc : ∀ i, i < 23 → w.cell? ⟨b, o + i, none⟩ = some (.float .f64 (tb i)) := fun i hi => (hkw.cell (by omega) (by simp)).trans (HTB.out i hi)
                  have HCC := Lib.hid cc; clear cc
                  go_enter Tryz.func190, Tryz.ntmps190
                  go_wp2_with fail
                  go_ret2
                  exact ⟨_, rfl, rfl, 0, rfl⟩
              · skip
                refine ⟨false, fun r => r = F, one_eq _, ?_⟩
                intro w hkw
                have cI := (hkw.tabs ht hN).info0
                have cP := (hkw.cell (b := 23) (o := 0) (by have := ht.low; omega) (by simp)).trans hP
                have cc : ∀ i, i < 23 → w.cell? ⟨b, o + i, none⟩ = some (.float .f64 (tb i)) := fun i hi => (hkw.cell (by omega) (by simp)).trans (HTB.out i hi)
                have HCC := Lib.hid cc; clear cc
                go_enter Tryz.func190, Tryz.ntmps190
                go_wp2_with fail
                go_ret2
                exact ⟨_, rfl, rfl, 0, rfl⟩
          · skip
            refine ⟨false, fun r => r = F, one_eq _, ?_⟩
            intro w hkw
            have cI := (hkw.tabs ht hN).info0
            have cP := (hkw.cell (b := 23) (o := 0) (by have := ht.low; omega) (by simp)).trans hP
            have cc : ∀ i, i < 23 → w.cell? ⟨b, o + i, none⟩ = some (.float .f64 (tb i)) := fun i hi => (hkw.cell (by omega) (by simp)).trans (HTB.out i hi)
            have HCC := Lib.hid cc; clear cc
            go_enter Tryz.func190, Tryz.ntmps190
            go_wp2_with fail
            go_ret2
            exact ⟨_, rfl, rfl, 0, rfl⟩
        · by_cases h22 : -22 ≤ x
          · cases hm2 : floatBits .quo .f64 F (tb (-x).toNat) with
            | none =>
              refine ⟨true, isNan, one_nan, ?_⟩
              intro w hkw
              have cI := (hkw.tabs ht hN).info0
              have cP := (hkw.cell (b := 23) (o := 0) (by have := ht.low; omega) (by simp)).trans hP
              have cc : ∀ i, i < 23 → w.cell? ⟨b, o + i, none⟩ = some (.float .f64 (tb i)) := fun i hi => (hkw.cell (by omega) (by simp)).trans (HTB.out i hi)
              have HCC := Lib.hid cc; clear cc
              have c2 := HCC.out (-x).toNat (by omega)
              have hn2 := fl_nan .quo quoOk 22 F (tb (-x).toNat) w hm2
              have hquo := fun t w => fl_run .quo quoOk t F (tb (-x).toNat) w
              have HN2 := Lib.hid hn2; clear hn2 hm2
              go_enter Tryz.func190, Tryz.ntmps190
              go_wp2_with fail
              go_ret2
              exact ⟨_, rfl, HN2.out, _, rfl⟩
            | some f2 =>
              have hr2 := quoS hm2
              clear hm2
              refine ⟨true, fun r => r = f2, one_eq _, ?_⟩
              intro w hkw
              have cI := (hkw.tabs ht hN).info0
              have cP := (hkw.cell (b := 23) (o := 0) (by have := ht.low; omega) (by simp)).trans hP
              have cc : ∀ i, i < 23 → w.cell? ⟨b, o + i, none⟩ = some (.float .f64 (tb i)) := fun i hi => (hkw.cell (by omega) (by simp)).trans (HTB.out i hi)
              have HCC := Lib.hid cc; clear cc
              have c2 := HCC.out (-x).toNat (by omega)
              go_enter Tryz.func190, Tryz.ntmps190
              go_wp2_with fail
              go_ret2
              exact ⟨_, rfl, rfl, 0, rfl⟩
          · skip
            refine ⟨false, fun r => r = F, one_eq _, ?_⟩
            intro w hkw
            have cI := (hkw.tabs ht hN).info0
            have cP := (hkw.cell (b := 23) (o := 0) (by have := ht.low; omega) (by simp)).trans hP
            have cc : ∀ i, i < 23 → w.cell? ⟨b, o + i, none⟩ = some (.float .f64 (tb i)) := fun i hi => (hkw.cell (by omega) (by simp)).trans (HTB.out i hi)
            have HCC := Lib.hid cc; clear cc
            go_enter Tryz.func190, Tryz.ntmps190
            go_wp2_with fail
            go_ret2
            exact ⟨_, rfl, rfl, 0, rfl⟩
    · obtain ⟨F, hF⟩ : ∃ F, Op.negFloat FloatKind.f64 (floatOfInt FloatKind.f64 (m : Int)) = F := ⟨_, rfl⟩
      by_cases h0 : x = 0
      · subst h0
        refine ⟨true, fun r => r = F, one_eq _, ?_⟩
        intro w hkw
        have cI := (hkw.tabs ht hN).info0
        have cP := (hkw.cell (b := 23) (o := 0) (by have := ht.low; omega) (by simp)).trans hP
        have cc : ∀ i, i < 23 → w.cell? ⟨b, o + i, none⟩ = some (.float .f64 (tb i)) := fun i hi => (hkw.cell (by omega) (by simp)).trans (HTB.out i hi)
        have HCC := Lib.hid cc; clear cc
        go_enter Tryz.func190, Tryz.ntmps190
        go_wp2_with fail
        go_ret2
        exact ⟨_, rfl, rfl, 0, rfl⟩
      · have z0 : (x == 0) = false := beq_eq_false_iff_ne.2 h0
        by_cases hpos : 0 < x
        · by_cases h37 : x ≤ 37
          · by_cases h22 : 22 < x
            · cases hm1 : floatBits .mul .f64 F (tb (x - 22).toNat) with
              | none =>
                refine ⟨true, isNan, one_nan, ?_⟩
                intro w hkw
                have cI := (hkw.tabs ht hN).info0
                have cP := (hkw.cell (b := 23) (o := 0) (by have := ht.low; omega) (by simp)).trans hP
                have cc : ∀ i, i < 23 → w.cell? ⟨b, o + i, none⟩ = some (.float .f64 (tb i)) := fun i hi => (hkw.cell (by omega) (by simp)).trans (HTB.out i hi)
                have HCC := Lib.hid cc; clear cc
                have c1 := HCC.out (x - 22).toNat (by omega)
                have c2 := HCC.out 22 (by omega)
                have hn1 := fl_nan .mul mulOk 22 F (tb (x - 22).toNat) w hm1
                have ho1 : FloatKind.f64.format.order (flR .mul mulOk 22 F (tb (x - 22).toNat) w) 4831355200913801216 = none := nan_order hn1 _
                have ho2 : FloatKind.f64.format.order (flR .mul mulOk 22 F (tb (x - 22).toNat) w) 14054727237768577024 = none := nan_order hn1 _
                have hn2 := fun W => fl_nan .mul mulOk 22 (flR .mul mulOk 22 F (tb (x - 22).toNat) w) (tb 22) W (mul_nan hn1 _)
                have hmul := fun t x y w => fl_run .mul mulOk t x y w
                have HN2 := Lib.hid hn2; clear hn2 hn1 hm1
                go_enter Tryz.func190, Tryz.ntmps190
                go_wp2_with fail
                go_ret2
                exact ⟨_, rfl, HN2.out _, _, rfl⟩
              | some f1 =>
                have hr1 := mulS hm1
                clear hm1
                cases hg : (FloatKind.f64.format.order f1 4831355200913801216 == some .gt)
                · cases hl : (FloatKind.f64.format.order f1 14054727237768577024 == some .lt)
                  · cases hm2 : floatBits .mul .f64 f1 (tb 22) with
                    | none =>
                      refine ⟨true, isNan, one_nan, ?_⟩
                      intro w hkw
                      have cI := (hkw.tabs ht hN).info0
                      have cP := (hkw.cell (b := 23) (o := 0) (by have := ht.low; omega) (by simp)).trans hP
                      have cc : ∀ i, i < 23 → w.cell? ⟨b, o + i, none⟩ = some (.float .f64 (tb i)) := fun i hi => (hkw.cell (by omega) (by simp)).trans (HTB.out i hi)
                      have HCC := Lib.hid cc; clear cc
                      have c1 := HCC.out (x - 22).toNat (by omega)
                      have c2 := HCC.out 22 (by omega)
                      have hn2 := fl_nan .mul mulOk 22 f1 (tb 22) w hm2
                      have hmul := fun t w => fl_run .mul mulOk t f1 (tb 22) w
                      have HN2 := Lib.hid hn2; clear hn2 hm2
                      go_enter Tryz.func190, Tryz.ntmps190
                      go_wp2_with fail
                      go_ret2
                      exact ⟨_, rfl, HN2.out, _, rfl⟩
                    | some f2 =>
                      have hr2 := mulS hm2
                      clear hm2
                      refine ⟨true, fun r => r = f2, one_eq _, ?_⟩
                      intro w hkw
                      have cI := (hkw.tabs ht hN).info0
                      have cP := (hkw.cell (b := 23) (o := 0) (by have := ht.low; omega) (by simp)).trans hP
                      have cc : ∀ i, i < 23 → w.cell? ⟨b, o + i, none⟩ = some (.float .f64 (tb i)) := fun i hi => (hkw.cell (by omega) (by simp)).trans (HTB.out i hi)
                      have HCC := Lib.hid cc; clear cc
                      have c1 := HCC.out (x - 22).toNat (by omega)
                      have c2 := HCC.out 22 (by omega)
                      go_enter Tryz.func190, Tryz.ntmps190
                      go_wp2_with fail
                      go_ret2
                      exact ⟨_, rfl, rfl, 0, rfl⟩
                  · refine ⟨false, fun r => r = f1, one_eq _, ?_⟩
                    intro w hkw
                    have cI := (hkw.tabs ht hN).info0
                    have cP := (hkw.cell (b := 23) (o := 0) (by have := ht.low; omega) (by simp)).trans hP
                    have cc : ∀ i, i < 23 → w.cell? ⟨b, o + i, none⟩ = some (.float .f64 (tb i)) := fun i hi => (hkw.cell (by omega) (by simp)).trans (HTB.out i hi)
                    have HCC := Lib.hid cc; clear cc
                    have c1 := HCC.out (x - 22).toNat (by omega)
                    go_enter Tryz.func190, Tryz.ntmps190
                    go_wp2_with fail
                    go_ret2
                    exact ⟨_, rfl, rfl, 0, rfl⟩
                · refine ⟨false, fun r => r = f1, one_eq _, ?_⟩
                  intro w hkw
                  have cI := (hkw.tabs ht hN).info0
                  have cP := (hkw.cell (b := 23) (o := 0) (by have := ht.low; omega) (by simp)).trans hP
                  have cc : ∀ i, i < 23 → w.cell? ⟨b, o + i, none⟩ = some (.float .f64 (tb i)) := fun i hi => (hkw.cell (by omega) (by simp)).trans (HTB.out i hi)
                  have HCC := Lib.hid cc; clear cc
                  have c1 := HCC.out (x - 22).toNat (by omega)
                  go_enter Tryz.func190, Tryz.ntmps190
                  go_wp2_with fail
                  go_ret2
                  exact ⟨_, rfl, rfl, 0, rfl⟩
            · cases hg : (FloatKind.f64.format.order F 4831355200913801216 == some .gt)
              · cases hl : (FloatKind.f64.format.order F 14054727237768577024 == some .lt)
                · cases hm2 : floatBits .mul .f64 F (tb x.toNat) with
                  | none =>
                    refine ⟨true, isNan, one_nan, ?_⟩
                    intro w hkw
                    have cI := (hkw.tabs ht hN).info0
                    have cP := (hkw.cell (b := 23) (o := 0) (by have := ht.low; omega) (by simp)).trans hP
                    have cc : ∀ i, i < 23 → w.cell? ⟨b, o + i, none⟩ = some (.float .f64 (tb i)) := fun i hi => (hkw.cell (by omega) (by simp)).trans (HTB.out i hi)
                    have HCC := Lib.hid cc; clear cc
                    have c2 := HCC.out x.toNat (by omega)
                    have hn2 := fl_nan .mul mulOk 22 F (tb x.toNat) w hm2
                    have hmul := fun t w => fl_run .mul mulOk t F (tb x.toNat) w
                    have HN2 := Lib.hid hn2; clear hn2 hm2
                    go_enter Tryz.func190, Tryz.ntmps190
                    go_wp2_with fail
                    go_ret2
                    exact ⟨_, rfl, HN2.out, _, rfl⟩
                  | some f2 =>
                    have hr2 := mulS hm2
                    clear hm2
                    refine ⟨true, fun r => r = f2, one_eq _, ?_⟩
                    intro w hkw
                    have cI := (hkw.tabs ht hN).info0
                    have cP := (hkw.cell (b := 23) (o := 0) (by have := ht.low; omega) (by simp)).trans hP
                    have cc : ∀ i, i < 23 → w.cell? ⟨b, o + i, none⟩ = some (.float .f64 (tb i)) := fun i hi => (hkw.cell (by omega) (by simp)).trans (HTB.out i hi)
                    have HCC := Lib.hid cc; clear cc
                    have c2 := HCC.out x.toNat (by omega)
                    go_enter Tryz.func190, Tryz.ntmps190
                    go_wp2_with fail
                    go_ret2
                    exact ⟨_, rfl, rfl, 0, rfl⟩
                · skip
                  refine ⟨false, fun r => r = F, one_eq _, ?_⟩
                  intro w hkw
                  have cI := (hkw.tabs ht hN).info0
                  have cP := (hkw.cell (b := 23) (o := 0) (by have := ht.low; omega) (by simp)).trans hP
                  have cc : ∀ i, i < 23 → w.cell? ⟨b, o + i, none⟩ = some (.float .f64 (tb i)) := fun i hi => (hkw.cell (by omega) (by simp)).trans (HTB.out i hi)
                  have HCC := Lib.hid cc; clear cc
                  go_enter Tryz.func190, Tryz.ntmps190
                  go_wp2_with fail
                  go_ret2
                  exact ⟨_, rfl, rfl, 0, rfl⟩
              · skip
                refine ⟨false, fun r => r = F, one_eq _, ?_⟩
                intro w hkw
                have cI := (hkw.tabs ht hN).info0
                have cP := (hkw.cell (b := 23) (o := 0) (by have := ht.low; omega) (by simp)).trans hP
                have cc : ∀ i, i < 23 → w.cell? ⟨b, o + i, none⟩ = some (.float .f64 (tb i)) := fun i hi => (hkw.cell (by omega) (by simp)).trans (HTB.out i hi)
                have HCC := Lib.hid cc; clear cc
                go_enter Tryz.func190, Tryz.ntmps190
                go_wp2_with fail
                go_ret2
                exact ⟨_, rfl, rfl, 0, rfl⟩
          · skip
            refine ⟨false, fun r => r = F, one_eq _, ?_⟩
            intro w hkw
            have cI := (hkw.tabs ht hN).info0
            have cP := (hkw.cell (b := 23) (o := 0) (by have := ht.low; omega) (by simp)).trans hP
            have cc : ∀ i, i < 23 → w.cell? ⟨b, o + i, none⟩ = some (.float .f64 (tb i)) := fun i hi => (hkw.cell (by omega) (by simp)).trans (HTB.out i hi)
            have HCC := Lib.hid cc; clear cc
            go_enter Tryz.func190, Tryz.ntmps190
            go_wp2_with fail
            go_ret2
            exact ⟨_, rfl, rfl, 0, rfl⟩
        · by_cases h22 : -22 ≤ x
          · cases hm2 : floatBits .quo .f64 F (tb (-x).toNat) with
            | none =>
              refine ⟨true, isNan, one_nan, ?_⟩
              intro w hkw
              have cI := (hkw.tabs ht hN).info0
              have cP := (hkw.cell (b := 23) (o := 0) (by have := ht.low; omega) (by simp)).trans hP
              have cc : ∀ i, i < 23 → w.cell? ⟨b, o + i, none⟩ = some (.float .f64 (tb i)) := fun i hi => (hkw.cell (by omega) (by simp)).trans (HTB.out i hi)
              have HCC := Lib.hid cc; clear cc
              have c2 := HCC.out (-x).toNat (by omega)
              have hn2 := fl_nan .quo quoOk 22 F (tb (-x).toNat) w hm2
              have hquo := fun t w => fl_run .quo quoOk t F (tb (-x).toNat) w
              have HN2 := Lib.hid hn2; clear hn2 hm2
              go_enter Tryz.func190, Tryz.ntmps190
              go_wp2_with fail
              go_ret2
              exact ⟨_, rfl, HN2.out, _, rfl⟩
            | some f2 =>
              have hr2 := quoS hm2
              clear hm2
              refine ⟨true, fun r => r = f2, one_eq _, ?_⟩
              intro w hkw
              have cI := (hkw.tabs ht hN).info0
              have cP := (hkw.cell (b := 23) (o := 0) (by have := ht.low; omega) (by simp)).trans hP
              have cc : ∀ i, i < 23 → w.cell? ⟨b, o + i, none⟩ = some (.float .f64 (tb i)) := fun i hi => (hkw.cell (by omega) (by simp)).trans (HTB.out i hi)
              have HCC := Lib.hid cc; clear cc
              have c2 := HCC.out (-x).toNat (by omega)
              go_enter Tryz.func190, Tryz.ntmps190
              go_wp2_with fail
              go_ret2
              exact ⟨_, rfl, rfl, 0, rfl⟩
          · skip
            refine ⟨false, fun r => r = F, one_eq _, ?_⟩
            intro w hkw
            have cI := (hkw.tabs ht hN).info0
            have cP := (hkw.cell (b := 23) (o := 0) (by have := ht.low; omega) (by simp)).trans hP
            have cc : ∀ i, i < 23 → w.cell? ⟨b, o + i, none⟩ = some (.float .f64 (tb i)) := fun i hi => (hkw.cell (by omega) (by simp)).trans (HTB.out i hi)
            have HCC := Lib.hid cc; clear cc
            go_enter Tryz.func190, Tryz.ntmps190
            go_wp2_with fail
            go_ret2
            exact ⟨_, rfl, rfl, 0, rfl⟩
  · have zb : ((m : Int) / 4503599627370496 != 0) = true := by rw [bne_iff_ne]; omega
    refine ⟨false, fun r => r = 0, one_eq _, ?_⟩
    intro w hkw
    have cI := (hkw.tabs ht hN).info0
    have cP := (hkw.cell (b := 23) (o := 0) (by have := ht.low; omega) (by simp)).trans hP
    have cc : ∀ i, i < 23 → w.cell? ⟨b, o + i, none⟩ = some (.float .f64 (tb i)) := fun i hi => (hkw.cell (by omega) (by simp)).trans (HTB.out i hi)
    have HCC := Lib.hid cc; clear cc
    go_enter Tryz.func190, Tryz.ntmps190
    go_wp2_with fail
    go_ret2
    exact ⟨_, rfl, rfl, 0, rfl⟩
end Go.Proofs.YtfkecmlmnhbmoaaGreatDoor
