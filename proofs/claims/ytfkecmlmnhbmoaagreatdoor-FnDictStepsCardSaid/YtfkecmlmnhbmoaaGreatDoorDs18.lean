import Derived.Test.YtfkecmlmnhbmoaaGreatDoorDs10
import Derived.Test.YtfkecmlmnhbmoaaGreatDoorDs17
namespace Go.Proofs.YtfkecmlmnhbmoaaGreatDoor
open Go.RowKit
/-- A call's end: a real, and no error. -/
def RetFE (e : Ending) : Prop := ∃ r : Nat, e = .returned (.tuple #[.float .f64 r, .nilIface])
set_option maxRecDepth 100000 in
set_option maxHeartbeats 1000000 in
theorem pack (m e : Int) (w : World) (hm : U m) (he : -1075 ≤ e) (he2 : e < 972) :
    Calls Tryz.prog 231 #[.int .u64 m, .int .i64 e] w fun en w' => RetFE en ∧ w = w' := by
  obtain ⟨h1, h2⟩ := hm
  have hcb := c189
  go_enter Tryz.func231, Tryz.ntmps231
  go_wp2_with fail
  all_goals go_ret2
  all_goals exact ⟨⟨_, rfl⟩, rfl⟩
set_option maxRecDepth 100000 in
set_option maxHeartbeats 2000000 in
theorem parse64 (d : Nat) (x sg : Int) (N : Nat) (w : World) (ht : Tabs N w) (hN : N ≤ w.heap.size) (hd : 1 ≤ d) (hd2 : d ≤ 10000000000000000000) (hx1 : -300 ≤ x) (hx2 : x ≤ 200) (hs : U sg) :
    Calls Tryz.prog 191 #[.int .u64 d, .int .i64 x, .int .u64 sg] w fun en w' => RetFE en ∧ Kept [] w w' := by
  obtain ⟨s1, s2⟩ := hs
  have hcb := c189
  have hb1 : 1 ≤ bitLen d := by unfold bitLen; rw [if_neg (by omega)]; omega
  have hb2 : bitLen d ≤ 64 := by
    unfold bitLen; rw [if_neg (by omega)]
    have : d.log2 < 64 := (Nat.log2_lt (by omega)).2 (by omega)
    omega
  go_enter Tryz.func191, Tryz.ntmps191
  go_wp2_with fail
  refine (len64 _ _ ⟨by omega, by omega⟩).mono ?_
  rintro e w' ⟨rfl, rfl⟩
  rw [Int.toNat_natCast]
  generalize bitLen d = b at hb1 hb2
  go_wp2_with fail
  refine (log2 _ _ (by omega) (by omega)).mono ?_
  rintro en w' ⟨rfl, rfl⟩
  have hl1 : -1000 ≤ x * 108853 / 32768 := by omega
  have hl2 : x * 108853 / 32768 ≤ 700 := by omega
  generalize x * 108853 / 32768 = lp at hl1 hl2
  have hmin : min (1074 : Int) (53 - (b : Int) - lp) = 53 - (b : Int) - lp := by omega
  go_wp2_with fail
  have hw : 53 - (b : Int) - lp - (64 - (b : Int)) = -11 - lp := by omega
  rw [hw]
  have ht1 := ht.kept ((Kept.refl [] w).alloc (.cells #[.int .u64 0, .int .u64 0, .int .i64 0] 294)) hN (by simp)
  refine (prescale _ (-11 - lp) x lp _ _ _ _ N ht1 hN (heap_at rfl) (by omega) (by omega) (by omega) (by omega) (by omega) (by omega)).mono ?_
  rintro en w1 ⟨a, c, ha, hc, rfl, hB, hk⟩
  have hk1 : Kept [] w w1 := Kept.trans (Y := [w.heap.size]) (X := []) ((Kept.refl [] w).alloc _) hk (by simp) (by simp)
  rw [show -(-11 - lp + lp + 3) = 8 by omega] at hB
  have c0 : w1.cell? ⟨w.heap.size, 0, none⟩ = some (.int .u64 a) := by simp [World.cell?, hB]
  have c1 : w1.cell? ⟨w.heap.size, 1, none⟩ = some (.int .u64 c) := by simp [World.cell?, hB]
  have c2 : w1.cell? ⟨w.heap.size, 2, none⟩ = some (.int .i64 8) := by simp [World.cell?, hB]
  have HB := Lib.hid hB; have HK := Lib.hid hk1; have HW := Lib.hid hw; clear hB hk hk1 ht1 hw
  go_wp2_with fail
  refine (uscale _ _ a c 8 _ (U_wrap _) ha hc c0 c1 c2).mono ?_
  rintro en w' ⟨⟨u, ⟨u1, u2⟩, rfl⟩, n1, rfl⟩
  have k1 : Kept [] w (w1.drewN n1) := HK.out.drewN n1
  clear c0 c1 c2
  generalize w1.drewN n1 = w2 at k1
  go_wp2_with fail
  refine (unmin _ _ ⟨by omega, by omega⟩).mono ?_
  rintro en w' ⟨⟨v, ⟨v1, v2⟩, rfl⟩, rfl⟩
  go_wp2_with fail
  refine (b2i _ _).mono ?_
  rintro en w' ⟨rfl, rfl⟩
  have hbi := bi_01 (decide (v ≤ u))
  obtain ⟨g1, g2⟩ := hbi
  generalize bi (decide (v ≤ u)) = s at g1 g2
  go_wp2_with fail
  refine (rround _ _ (U_bits _ _ _)).mono ?_
  rintro en w' ⟨⟨q, ⟨q1, q2⟩, rfl⟩, rfl⟩
  go_wp2_with fail
  refine (pack _ _ _ (U_bits _ _ _) (by omega) (by omega)).mono ?_
  rintro en w' ⟨⟨r, rfl⟩, rfl⟩
  go_wp2_with fail
  go_ret2
  exact ⟨⟨_, rfl⟩, k1⟩
end Go.Proofs.YtfkecmlmnhbmoaaGreatDoor
namespace Go.Proofs.YtfkecmlmnhbmoaaGreatDoor
open Go.RowKit
def RetU (e : Ending) : Prop := ∃ r : Int, U r ∧ e = .returned (.int .u64 r)
set_option maxRecDepth 100000 in
set_option maxHeartbeats 4000000 in
theorem drint (B : Nat) (x : Nat → Nat) (n : Nat) (dp : Int) (ng tr : Bool) (w : World) (hD : Dec w B x n dp ng tr) (h8 : n ≤ 800) (hd : Dg x n) :
    Calls Tryz.prog 230 #[.pointer (some ⟨B, 0, none⟩)] w fun e w' => RetU e ∧ ∃ k, w' = w.drewN k := by
  have cP := hD.p
  have cN := hD.n
  by_cases hbig : 20 < dp
  · go_enter Tryz.func230, Tryz.ntmps230
    go_wp2_with fail
    go_ret
    exact ⟨⟨_, ⟨by omega, by omega⟩, rfl⟩, 0, rfl⟩
  · go_enter Tryz.func230, Tryz.ntmps230
    go_wp2_with fail
    go_loop [3, 4] (fun vi vn => ∃ (j : Nat) (r : Int), vi = .int .i64 j ∧ vn = .int .u64 r ∧ U r ∧ j ≤ 20) (fun vi _ => 21 - (intOf vi).toNat)
    case atStart => exact ⟨0, 0, rfl, rfl, ⟨by omega, by omega⟩, by omega⟩
    case round =>
      obtain ⟨j, r, rfl, rfl, ⟨r1, r2⟩, hj⟩ := hrel
      by_cases h1 : (j : Int) < dp
      · by_cases h2 : j < n
        · have cJ := hD.dig j (by omega)
          obtain ⟨d1, d2⟩ := hd j h2
          go_wp2_with fail
          exact ⟨⟨j + 1, _, by go_num, rfl, U_wrap _, by omega⟩, by simp [intOf]; omega⟩
        · skip
          go_wp2_with fail
          go_loop [3, 4] (fun vi vn => ∃ (j : Nat) (r : Int), vi = .int .i64 j ∧ vn = .int .u64 r ∧ U r ∧ j ≤ 20) (fun vi _ => 21 - (intOf vi).toNat)
          case atStart => exact ⟨j, r, rfl, rfl, ⟨r1, r2⟩, hj⟩
          case round =>
            clear r1 r2 hj
            obtain ⟨j, r, rfl, rfl, ⟨r1, r2⟩, hj⟩ := hrel
            by_cases h3 : (j : Int) < dp
            · go_wp2_with fail
              exact ⟨⟨j + 1, _, by go_num, rfl, U_wrap _, by omega⟩, by simp [intOf]; omega⟩
            · go_wp2_with fail
              refine (dshould B x n dp ng tr _ w hD h8 hd).mono ?_
              rintro en w' ⟨⟨b, rfl⟩, k, rfl⟩
              cases b
              · go_wp2_with fail
                go_ret
                exact ⟨⟨_, ⟨r1, r2⟩, rfl⟩, k, rfl⟩
              · go_wp2_with fail
                go_ret
                exact ⟨⟨_, U_wrap _, rfl⟩, k, rfl⟩
      · skip
        go_wp2_with fail
        go_loop [3, 4] (fun vi vn => ∃ (j : Nat) (r : Int), vi = .int .i64 j ∧ vn = .int .u64 r ∧ U r ∧ j ≤ 20) (fun vi _ => 21 - (intOf vi).toNat)
        case atStart => exact ⟨j, r, rfl, rfl, ⟨r1, r2⟩, hj⟩
        case round =>
          clear r1 r2 hj
          obtain ⟨j, r, rfl, rfl, ⟨r1, r2⟩, hj⟩ := hrel
          by_cases h3 : (j : Int) < dp
          · go_wp2_with fail
            exact ⟨⟨j + 1, _, by go_num, rfl, U_wrap _, by omega⟩, by simp [intOf]; omega⟩
          · go_wp2_with fail
            refine (dshould B x n dp ng tr _ w hD h8 hd).mono ?_
            rintro en w' ⟨⟨b, rfl⟩, k, rfl⟩
            cases b
            · go_wp2_with fail
              go_ret
              exact ⟨⟨_, ⟨r1, r2⟩, rfl⟩, k, rfl⟩
            · go_wp2_with fail
              go_ret
              exact ⟨⟨_, U_wrap _, rfl⟩, k, rfl⟩
end Go.Proofs.YtfkecmlmnhbmoaaGreatDoor
