import Derived.Test.YtfkecmlmnhbmoaaGreatDoorFk34
import Derived.Test.YtfkecmlmnhbmoaaGreatDoorFk10
import Derived.Test.YtfkecmlmnhbmoaaGreatDoorFk16
import Derived.Laws.BytesArg
import Derived.Laws.MakeOwn
namespace Go.Proofs.YtfkecmlmnhbmoaaGreatDoor
open Go.RowKit
set_option maxRecDepth 100000 in
set_option maxHeartbeats 2000000 in
theorem packF (m e : Int) (hm : U m) (he : -1075 ≤ e) (he2 : e < 972) : ∃ r : Nat, ∀ w : World, Calls Tryz.prog 231 #[.int .u64 m, .int .i64 e] w fun en w' => en = .returned (.tuple #[.float .f64 r, .nilIface]) ∧ w = w' := by
  obtain ⟨h1, h2⟩ := hm
  have hcb := c189
  cases hc : (bits .and .u64 m 4503599627370496 == 0)
  · apply Exists.intro
    intro w
    go_enter Tryz.func231, Tryz.ntmps231
    go_wp2_with fail
    go_ret2
    exact ⟨rfl, rfl⟩
  · apply Exists.intro
    intro w
    go_enter Tryz.func231, Tryz.ntmps231
    go_wp2_with fail
    go_ret2
    exact ⟨rfl, rfl⟩
set_option maxRecDepth 100000 in
set_option maxHeartbeats 2000000 in
theorem parse64F (d : Nat) (x sg : Int) (N : Nat) (W0 : World) (ht0 : Tabs N W0) (hN0 : N ≤ W0.heap.size) (hd : 1 ≤ d) (hd2 : d ≤ 10000000000000000000) (hx1 : -300 ≤ x) (hx2 : x ≤ 200) (hs : U sg) :
    ∃ r : Nat, ∀ w : World, Kept [] W0 w → Calls Tryz.prog 191 #[.int .u64 d, .int .i64 x, .int .u64 sg] w fun en w' => en = .returned (.tuple #[.float .f64 r, .nilIface]) ∧ Kept [] w w' := by
  have hb1 : 1 ≤ bitLen d := by unfold bitLen; rw [if_neg (by omega)]; omega
  have hb2 : bitLen d ≤ 64 := by
    unfold bitLen; rw [if_neg (by omega)]
    have : d.log2 < 64 := (Nat.log2_lt (by omega)).2 (by omega)
    omega
  obtain ⟨b, hb⟩ : ∃ b, bitLen d = b := ⟨_, rfl⟩
  rw [hb] at hb1 hb2
  have hl1 : -1000 ≤ x * 108853 / 32768 := by omega
  have hl2 : x * 108853 / 32768 ≤ 700 := by omega
  obtain ⟨lp, hlp⟩ : ∃ lp, x * 108853 / 32768 = lp := ⟨_, rfl⟩
  rw [hlp] at hl1 hl2
  obtain ⟨a, c, ⟨ha, hc⟩, hP⟩ := prescaleF (-11 - lp) x lp W0 N ht0 hN0 (by omega) (by omega) (by omega) (by omega) (by omega) (by omega)
  obtain ⟨u, ⟨u1, u2⟩, hU⟩ := uscaleF (IntKind.u64.wrap ((d : Int) * 2 ^ (64 - b))) a c 8 (U_wrap _) ha hc
  obtain ⟨v, ⟨v1, v2⟩, hV⟩ := unminF 9007199254740992 ⟨by omega, by omega⟩
  obtain ⟨s, hs1⟩ : ∃ s, bi (decide (v ≤ u)) = s := ⟨_, rfl⟩
  have hbi := bi_01 (decide (v ≤ u))
  rw [hs1] at hbi
  obtain ⟨g1, g2⟩ := hbi
  obtain ⟨q, ⟨q1, q2⟩, hQ⟩ := rroundF (bits .or .u64 (u / 2 ^ s.toNat) (bits .and .u64 u 1)) (U_bits _ _ _)
  obtain ⟨r, hR⟩ := packF (bits .or .u64 sg q) (-(53 - (b : Int) - lp - s)) (U_bits _ _ _) (by omega) (by omega)
  refine ⟨r, fun w hkw => ?_⟩
  have HB := Lib.hid hb; have HLP := Lib.hid hlp; have HPP := Lib.hid hP; have HU := Lib.hid hU; have HV := Lib.hid hV; have HS1 := Lib.hid hs1; have HQ := Lib.hid hQ; have HR := Lib.hid hR
  clear hb hlp hP hU hV hs1 hQ hR
  obtain ⟨s1, s2⟩ := hs
  have hcb := c189
  have hN : N ≤ w.heap.size := Nat.le_trans hN0 hkw.size
  go_enter Tryz.func191, Tryz.ntmps191
  go_wp2_with fail
  refine (len64 _ _ ⟨by omega, by omega⟩).mono ?_
  rintro e w' ⟨rfl, rfl⟩
  rw [Int.toNat_natCast, HB.out]
  go_wp2_with fail
  refine (log2 _ _ (by omega) (by omega)).mono ?_
  rintro en w' ⟨rfl, rfl⟩
  rw [HLP.out]
  have hmin : min (1074 : Int) (53 - (b : Int) - lp) = 53 - (b : Int) - lp := by omega
  go_wp2_with fail
  have hw : 53 - (b : Int) - lp - (64 - (b : Int)) = -11 - lp := by omega
  rw [hw]
  refine (HPP.out _ _ _ _ _ (hkw.alloc _) hN (heap_at rfl)).mono ?_
  rintro en w1 ⟨rfl, hB, hk⟩
  have hk1 : Kept [] w w1 := Kept.trans (Y := [w.heap.size]) (X := []) ((Kept.refl [] w).alloc _) hk (by simp) (by simp)
  rw [show -(-11 - lp + lp + 3) = 8 by omega] at hB
  have c0 : w1.cell? ⟨w.heap.size, 0, none⟩ = some (.int .u64 a) := by simp [World.cell?, hB]
  have c1 : w1.cell? ⟨w.heap.size, 1, none⟩ = some (.int .u64 c) := by simp [World.cell?, hB]
  have c2 : w1.cell? ⟨w.heap.size, 2, none⟩ = some (.int .i64 8) := by simp [World.cell?, hB]
  have HBB := Lib.hid hB; have HK := Lib.hid hk1; have HW := Lib.hid hw; clear hB hk hk1 hw
  go_wp2_with fail
  refine (HU.out _ _ c0 c1 c2).mono ?_
  rintro en w' ⟨rfl, n1, rfl⟩
  have k1 : Kept [] w (w1.drewN n1) := HK.out.drewN n1
  clear c0 c1 c2
  generalize w1.drewN n1 = w2 at k1
  go_wp2_with fail
  refine (HV.out _).mono ?_
  rintro en w' ⟨rfl, rfl⟩
  go_wp2_with fail
  refine (b2i _ _).mono ?_
  rintro en w' ⟨rfl, rfl⟩
  rw [HS1.out]
  go_wp2_with fail
  refine (HQ.out _).mono ?_
  rintro en w' ⟨rfl, rfl⟩
  go_wp2_with fail
  refine (HR.out _).mono ?_
  rintro en w' ⟨rfl, rfl⟩
  go_wp2_with fail
  go_ret2
  exact ⟨rfl, k1⟩
end Go.Proofs.YtfkecmlmnhbmoaaGreatDoor
