import Derived.Test.YtfkecmlmnhbmoaaGreatDoorDs13
namespace Go.Proofs.YtfkecmlmnhbmoaaGreatDoor
open Go.RowKit
set_option maxRecDepth 100000 in
set_option maxHeartbeats 4000000 in
theorem dshift_r (B : Nat) (x : Nat → Nat) (nd : Nat) (dp : Int) (ng tr : Bool) (k : Nat) (w : World) (hD : Dec w B x nd dp ng tr) (hd : Dg x nd) (h1 : 1 ≤ nd) (h8 : nd ≤ 800) (h0 : x 0 ≠ 48) (hk1 : 1 ≤ k) (hk2 : k ≤ 60)
    (hp1 : -1000000000 ≤ dp) (hp2 : dp ≤ 1000000000) :
    Calls Tryz.prog 155 #[.pointer (some ⟨B, 0, none⟩), .int .i64 (-(k : Int))] w fun en w' => en = .returned (.tuple #[]) ∧ Kept [B] w w' ∧
      ∃ x' nd' dp' tr', Dec w' B x' nd' dp' ng tr' ∧ Dg x' nd' ∧ 1 ≤ nd' ∧ nd' ≤ 800 ∧ x' 0 ≠ 48 ∧ dp' ≤ dp ∧ dp - 900 ≤ dp' ∧ (dp' = dp → 2 ^ k ≤ x 0 - 48 ∧ x' 0 = 48 + (x 0 - 48) / 2 ^ k) := by
  have cN := hD.n
  have z0 : ((nd : Int) == 0) = false := beq_eq_false_iff_ne.2 (by omega)
  go_enter Tryz.func155, Tryz.ntmps155
  go_wp2_with fail
  refine wp_loop_once ?_
  go_wp2_with fail
  refine (rshift B x nd dp ng tr k w hD hd h1 h8 h0 hk1 hk2 hp1 hp2).mono ?_
  rintro en w' ⟨rfl, hr⟩
  have HR := Lib.hid hr; clear hr
  go_wp2_with fail
  go_end0
  exact ⟨rfl, HR.out⟩
set_option maxRecDepth 100000 in
set_option maxHeartbeats 4000000 in
theorem dshift_l (B : Nat) (x : Nat → Nat) (nd : Nat) (dp : Int) (ng tr : Bool) (k N : Nat) (w : World) (hch : Cheat N w) (hN : N ≤ B) (hD : Dec w B x nd dp ng tr) (hd : Dg x nd) (h1 : 1 ≤ nd) (h8 : nd ≤ 800) (h0 : x 0 ≠ 48) (hk1 : 1 ≤ k) (hk2 : k ≤ 60)
    (hp1 : -1000000000 ≤ dp) (hp2 : dp ≤ 1000000000) :
    Calls Tryz.prog 155 #[.pointer (some ⟨B, 0, none⟩), .int .i64 k] w fun en w' => en = .returned (.tuple #[]) ∧ Kept [B] w w' ∧
      ∃ x' nd' a tr', Dec w' B x' nd' (dp + (a : Nat)) ng tr' ∧ Dg x' nd' ∧ 1 ≤ nd' ∧ nd' ≤ 800 ∧ x' 0 ≠ 48 ∧ a ≤ 19 ∧ (a = 0 → 48 + (x 0 - 48) * 2 ^ k ≤ x' 0) := by
  have cN := hD.n
  have z0 : ((nd : Int) == 0) = false := beq_eq_false_iff_ne.2 (by omega)
  go_enter Tryz.func155, Tryz.ntmps155
  go_wp2_with fail
  refine wp_loop_once ?_
  go_wp2_with fail
  refine (lshift B x nd dp ng tr k N w hch hN hD hd h1 h8 h0 hk1 hk2 hp1 hp2).mono ?_
  rintro en w' ⟨rfl, hr⟩
  have HR := Lib.hid hr; clear hr
  go_wp2_with fail
  go_end0
  exact ⟨rfl, HR.out⟩
set_option maxRecDepth 100000 in
set_option maxHeartbeats 4000000 in
theorem dshift_rn (B : Nat) (x : Nat → Nat) (nd : Nat) (dp : Int) (ng tr : Bool) (k : Nat) (w : World) (hD : Dec w B x nd dp ng tr) (hd : Dg x nd) (h1 : 1 ≤ nd) (h8 : nd ≤ 800) (h0 : x 0 ≠ 48) (hk1 : 1 ≤ k) (hk2 : k ≤ 500000)
    (hp1 : -100000000 ≤ dp) (hp2 : dp ≤ 100000000) :
    Calls Tryz.prog 155 #[.pointer (some ⟨B, 0, none⟩), .int .i64 (-(k : Int))] w fun en w' => en = .returned (.tuple #[]) ∧ Kept [B] w w' ∧
      ∃ x' nd' dp' tr', Dec w' B x' nd' dp' ng tr' ∧ Dg x' nd' ∧ 1 ≤ nd' ∧ nd' ≤ 800 ∧ x' 0 ≠ 48 ∧ dp' ≤ dp ∧ dp - 900 * (k : Int) ≤ dp' := by
  have cN := hD.n
  have hk0 : 0 < k := hk1
  have z0 : ((nd : Int) == 0) = false := beq_eq_false_iff_ne.2 (by omega)
  go_enter Tryz.func155, Tryz.ntmps155
  go_wp2_with fail
  clear cN z0
  go_loopw [1] (fun vk wr => ∃ (j : Nat) (y : Nat → Nat) (n : Nat) (p : Int) (t : Bool), 1 ≤ j ∧ j ≤ k ∧ vk = .int .i64 (-(j : Int)) ∧ Dec wr B y n p ng t ∧ Dg y n ∧ 1 ≤ n ∧ n ≤ 800 ∧ y 0 ≠ 48 ∧ p ≤ dp ∧ dp - 900 * ((k : Int) - j) ≤ p ∧ Kept [B] w wr) (fun vk _ => (-(intOf vk)).toNat)
  case atStart => exact ⟨k, x, nd, dp, tr, hk1, by omega, rfl, hD, hd, h1, h8, h0, by omega, by omega, Kept.refl _ _⟩
  case round =>
    clear hD hd h1 h8 h0
    obtain ⟨j, y, n, p, t, hj1, hj2, rfl, hD, hd, h1, h8, h0, hpa, hpb, hK⟩ := hrel
    by_cases hj : 60 < j
    · go_wp2_with fail
      refine (rshift B y n p ng t 60 wr hD hd h1 h8 h0 (by omega) (by omega) (by omega) (by omega)).mono ?_
      rintro en w' ⟨rfl, hK2, x', nd', dp', tr', hD', hd', h1', h8', h0', hpa', hpb', _⟩
      go_wp2_with fail
      go_roundw
      case rel => exact ⟨j - 60, x', nd', dp', tr', by omega, by omega, congrArg (Value.int .i64) (by omega), hD', hd', h1', h8', h0', by omega, by omega, Kept.trans hK hK2 (fun _ h => h) (fun _ h _ => h)⟩
      case measure => simp [intOf]; omega
    · go_wp2_with fail
      refine (rshift B y n p ng t j wr hD hd h1 h8 h0 (by omega) (by omega) (by omega) (by omega)).mono ?_
      rintro en w' ⟨rfl, hK2, x', nd', dp', tr', hD', hd', h1', h8', h0', hpa', hpb', _⟩
      go_wp2_with fail
      go_end0
      exact ⟨rfl, Kept.trans hK hK2 (fun _ h => h) (fun _ h _ => h), x', nd', dp', tr', hD', hd', h1', h8', h0', by omega, by omega⟩
end Go.Proofs.YtfkecmlmnhbmoaaGreatDoor
