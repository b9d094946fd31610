import Derived.Test.YtfkecmlmnhbmoaaGreatDoorDs11
import Derived.Lib.AppendIntMem
import Derived.Lib.ItoaLen
namespace Go.Proofs.YtfkecmlmnhbmoaaGreatDoor
open Go.RowKit Go.Sort
/-- A block of m bytes. -/
structure Bt (w : World) (C : Nat) (y : Nat → Nat) (m t : Nat) : Prop where
  blk : ∃ cs, w.heap[C]? = some (.cells cs t (0, 0)) ∧ cs.size = m
  dig : ∀ i, i < m → w.cell? ⟨C, i, none⟩ = some (.int .u8 (y i : Nat))
section
variable {w : World} {C m t : Nat} {y : Nat → Nat}
theorem Bt.free (h : Bt w C y m t) (o : Nat) : w.frozen? ⟨C, o, none⟩ = false := by obtain ⟨cs, hc, _⟩ := h.blk; simp [World.frozen?, hc]
theorem Bt.lt (h : Bt w C y m t) : C < w.heap.size := by obtain ⟨cs, hc, _⟩ := h.blk; exact lt_of_block hc
theorem Bt.setD (h : Bt w C y m t) {i : Nat} (hi : i < m) (c : Nat) : Bt (w.setCell ⟨C, i, none⟩ (.int .u8 (c : Nat))) C (upd y i c) m t := by
  obtain ⟨cs, hc, hs⟩ := h.blk
  refine ⟨⟨_, block_set hc i _, by simpa using hs⟩, fun j hj => ?_⟩
  by_cases e : i = j
  · subst e; rw [upd_at]; simp [World.cell?, block_set hc, hs, hi]
  · rw [upd_ne _ _ (fun e2 => e e2.symm), cell_set_off _ _ _ _ _ e]; exact h.dig j hj
theorem Bt.same {w' : World} (h : Bt w C y m t) (e : w'.heap[C]? = w.heap[C]?) : Bt w' C y m t :=
  ⟨by rw [e]; exact h.blk, fun i hi => (World.cell?_of_block (w := w) e).trans (h.dig i hi)⟩
end
theorem bt24 (w : World) : Bt (w.alloc (.cells #[.int .u8 0, .int .u8 0, .int .u8 0, .int .u8 0, .int .u8 0, .int .u8 0, .int .u8 0, .int .u8 0, .int .u8 0, .int .u8 0, .int .u8 0, .int .u8 0, .int .u8 0, .int .u8 0, .int .u8 0, .int .u8 0, .int .u8 0, .int .u8 0, .int .u8 0, .int .u8 0, .int .u8 0, .int .u8 0, .int .u8 0, .int .u8 0] 156)) w.heap.size (fun _ => 0) 24 156 := by
  refine ⟨⟨_, heap_at rfl, rfl⟩, fun i hi => ?_⟩
  rw [World.cell?_alloc_new]
  exact Lib.zeros24_at i hi
set_option maxRecDepth 100000 in
set_option maxHeartbeats 4000000 in
theorem dassign (B : Nat) (x : Nat → Nat) (nd : Nat) (dp : Int) (ng tr : Bool) (v : Nat) (w : World) (hD : Dec w B x nd dp ng tr) (hv : 0 < v) (hv2 : v < 18446744073709551616) :
    Calls Tryz.prog 154 #[.pointer (some ⟨B, 0, none⟩), .int .u64 v] w fun en w' => en = .returned (.tuple #[]) ∧ Kept [B] w w' ∧
      ∃ x' nd' dp', Dec w' B x' nd' dp' ng tr ∧ Dg x' nd' ∧ 1 ≤ nd' ∧ nd' ≤ 20 ∧ x' 0 ≠ 48 ∧ 1 ≤ dp' ∧ dp' ≤ 20 := by
  have hlt := hD.lt
  go_enter Tryz.func154, Tryz.ntmps154
  go_wp2_with fail
  have D1 := hD.same (heap_lt (o := .cells #[.int .u8 0, .int .u8 0, .int .u8 0, .int .u8 0, .int .u8 0, .int .u8 0, .int .u8 0, .int .u8 0, .int .u8 0, .int .u8 0, .int .u8 0, .int .u8 0, .int .u8 0, .int .u8 0, .int .u8 0, .int .u8 0, .int .u8 0, .int .u8 0, .int .u8 0, .int .u8 0, .int .u8 0, .int .u8 0, .int .u8 0, .int .u8 0] 156) hlt)
  have B1 := bt24 w
  have K1 := (Kept.refl [B] w).alloc (.cells #[.int .u8 0, .int .u8 0, .int .u8 0, .int .u8 0, .int .u8 0, .int .u8 0, .int .u8 0, .int .u8 0, .int .u8 0, .int .u8 0, .int .u8 0, .int .u8 0, .int .u8 0, .int .u8 0, .int .u8 0, .int .u8 0, .int .u8 0, .int .u8 0, .int .u8 0, .int .u8 0, .int .u8 0, .int .u8 0, .int .u8 0, .int .u8 0] 156)
  have hC : B ≠ w.heap.size := by omega
  have hC2 : w.heap.size ≤ w.heap.size := by omega
  generalize w.alloc (.cells #[.int .u8 0, .int .u8 0, .int .u8 0, .int .u8 0, .int .u8 0, .int .u8 0, .int .u8 0, .int .u8 0, .int .u8 0, .int .u8 0, .int .u8 0, .int .u8 0, .int .u8 0, .int .u8 0, .int .u8 0, .int .u8 0, .int .u8 0, .int .u8 0, .int .u8 0, .int .u8 0, .int .u8 0, .int .u8 0, .int .u8 0, .int .u8 0] 156) = w1 at D1 B1 K1 ⊢
  generalize hCC : w.heap.size = C at B1 hC hC2 ⊢
  go_loopw [1, 5] (fun vv vn wr => ∃ (u n : Nat) (y : Nat → Nat), vv = .int .u64 u ∧ vn = .int .i64 n ∧ Dec wr B x nd dp ng tr ∧ Bt wr C y 24 156 ∧ Kept [B] w wr ∧ u * 10 ^ n ≤ v ∧ n ≤ 20 ∧ Dg y n ∧ (u = 0 → 1 ≤ n ∧ y (n - 1) ≠ 48)) (fun vv _ _ => (intOf vv).toNat)
  case atStart => exact ⟨v, 0, _, rfl, rfl, D1, B1, K1, by omega, by omega, fun i hi => by omega, fun h => by omega⟩
  case round =>
    clear D1 B1 K1
    obtain ⟨u, n, y, rfl, rfl, hDr, hBr, hKr, hun, hn20, hdy, hu0⟩ := hrel
    by_cases hu : 0 < u
    · have hn : n < 20 := by
        rcases Nat.lt_or_ge n 20 with h | h
        · exact h
        · have h2 : 10 ^ 20 ≤ 10 ^ n := Nat.pow_le_pow_right (by decide) h
          have h3 : 1 * 10 ^ n ≤ u * 10 ^ n := Nat.mul_le_mul_right _ hu
          have : (10 : Nat) ^ 20 = 100000000000000000000 := by decide
          omega
      have hule : u ≤ v := Nat.le_trans (Nat.le_mul_of_pos_right u (Nat.pow_pos (by decide))) hun
      have hfB := hBr.free
      have cB := hBr.dig n (by omega)
      go_wp2_with fail
      have ec : ((u : Int) - 10 * ((u : Int) / 10) + 48) = ((u % 10 + 48 : Nat) : Int) := by omega
      rw [ec]
      refine ⟨⟨u / 10, n + 1, upd y n (u % 10 + 48), rfl, rfl, hDr.same (heap_set (by exact hC)), hBr.setD (by omega) _, hKr.setCell (.inl (by rw [hCC]; exact Nat.le_refl _)) _, ?_, by omega, hdy.snoc (by omega) (by omega), fun h => ⟨by omega, by rw [Nat.add_sub_cancel, upd_at]; omega⟩⟩, by simp [intOf]; omega⟩
      rw [Nat.pow_succ, Nat.mul_comm (10 ^ n) 10, ← Nat.mul_assoc]
      exact Nat.le_trans (Nat.mul_le_mul_right _ (Nat.div_mul_le_self u 10)) hun
    · obtain rfl : u = 0 := by omega
      have hf := hDr.free
      have cN := hDr.n
      obtain ⟨hn1, hy1⟩ := hu0 rfl
      go_wp2_with fail
      have D2 := hDr.setN 0
      have B2 := hBr.same (heap_set (w := wr) (p := ⟨B, 800, none⟩) (u := .int .i64 ((0 : Nat) : Int)) (fun e => hC e.symm))
      have K2 := hKr.set1 800 (.int .i64 ((0 : Nat) : Int))
      go_loopw [5] (fun vn wz => ∃ (c : Nat) (x' : Nat → Nat), c ≤ n ∧ vn = .int .i64 ((n : Int) - 1 - (c : Int)) ∧ Dec wz B x' c dp ng tr ∧ Bt wz C y 24 156 ∧ Kept [B] w wz ∧ (∀ i, i < c → x' i = y (n - 1 - i))) (fun vn _ => (intOf vn + 1).toNat)
      case atStart => exact ⟨0, x, by omega, congrArg (Value.int .i64) (by omega), D2, B2, K2, fun i hi => by omega⟩
      case round =>
        clear D2 B2 K2 hDr hBr hKr hf cN
        obtain ⟨c, z, hc, rfl, hDr, hBr, hKr, hz⟩ := hrel
        have hf := hDr.free
        have cN := hDr.n
        have cP := hDr.p
        by_cases hlt : c < n
        · have cD := hDr.dig c (by omega)
          have cB := hBr.dig (n - 1 - c) (by omega)
          have ec : ((n : Int) - 1 - (c : Int)).toNat = n - 1 - c := by omega
          have cB' : wr.cell? ⟨C, ((n : Int) - 1 - (c : Int)).toNat, none⟩ = some (.int .u8 (y (n - 1 - c) : Nat)) := by rw [ec]; exact cB
          go_wp2_with fail
          go_region
          go_wp2_with fail
          have D3 := ((hDr.setD (i := c) (by omega) (y (n - 1 - c))).setN (c + 1)).drew
          have B3 := (hBr.same (heap_set (w := wr) (p := ⟨B, c, none⟩) (u := .int .u8 (y (n - 1 - c) : Nat)) (fun e => hC e.symm)))
          have B4 := (B3.same (heap_set (p := ⟨B, 800, none⟩) (u := .int .i64 ((c + 1 : Nat) : Int)) (fun e => hC e.symm)))
          have K3 := ((hKr.set1 c (.int .u8 (y (n - 1 - c) : Nat))).set1 800 (.int .i64 ((c + 1 : Nat) : Int))).drew
          refine ⟨⟨c + 1, upd z c (y (n - 1 - c)), by omega, congrArg (Value.int .i64) (by omega), D3, B4.same rfl, K3, fun i hi => ?_⟩, by simp [intOf]; omega⟩
          by_cases e : i = c
          · subst e; exact upd_at _ _ _
          · rw [upd_ne _ _ e]; exact hz i (by omega)
        · obtain rfl : c = n := by omega
          go_wp2_with fail
          have hzd : Dg z c := fun i hi => by rw [hz i hi]; exact hdy _ (by omega)
          have hz0 : z 0 ≠ 48 := by rw [hz 0 (by omega)]; simpa using hy1
          refine (dtrim B z c c ng tr _ (hDr.setP c) (by omega)).mono ?_
          rintro en w' ⟨rfl, hKt, nd', dp', hDt, hnd', hge, hdp', _⟩
          have hge1 := hge hn1 hz0
          go_wp2_with fail
          go_end0
          have hdp := hdp' hge1
          exact ⟨rfl, Kept.trans (hKr.set1 _ _) hKt (fun _ h => h) (fun _ h _ => h), z, nd', dp', hDt, fun i hi => hzd i (by omega), hge1, by omega, hz0, by omega, by omega⟩
end Go.Proofs.YtfkecmlmnhbmoaaGreatDoor
namespace Go.Proofs.YtfkecmlmnhbmoaaGreatDoor
open Go.RowKit Go.Sort
/-- A call's end: it came back with a boolean. -/
def RetB (e : Ending) : Prop := ∃ b : Bool, e = .returned (.bool b)
set_option maxRecDepth 100000 in
set_option maxHeartbeats 2000000 in
theorem dshould (B : Nat) (x : Nat → Nat) (n : Nat) (dp : Int) (ng tr : Bool) (nd : Int) (w : World) (hD : Dec w B x n dp ng tr) (h8 : n ≤ 800) (hd : Dg x n) :
    Calls Tryz.prog 208 #[.pointer (some ⟨B, 0, none⟩), .int .i64 nd] w fun en w' => RetB en ∧ ∃ k, w' = w.drewN k := by
  have cN := hD.n
  by_cases h1 : nd < 0
  · go_enter Tryz.func208, Tryz.ntmps208
    go_wp2_with fail
    go_ret
    exact ⟨⟨_, rfl⟩, 0, rfl⟩
  · obtain ⟨m, rfl⟩ : ∃ m : Nat, nd = m := ⟨nd.toNat, by omega⟩
    by_cases h2 : n ≤ m
    · go_enter Tryz.func208, Tryz.ntmps208
      go_wp2_with fail
      go_ret
      exact ⟨⟨_, rfl⟩, 0, rfl⟩
    · have cM := hD.dig m (by omega)
      have cT := hD.t
      have hx := hd m (by omega)
      by_cases h3 : 0 < m
      · obtain ⟨j, rfl⟩ : ∃ j, m = j + 1 := ⟨m - 1, by omega⟩
        have cJ := hD.dig j (by omega)
        have hxj := hd j (by omega)
        go_enter Tryz.func208, Tryz.ntmps208
        go_wp2_with fail
        all_goals go_ret
        all_goals exact ⟨⟨_, rfl⟩, 0, rfl⟩
      · obtain rfl : m = 0 := by omega
        go_enter Tryz.func208, Tryz.ntmps208
        go_wp2_with fail
        all_goals go_ret
        all_goals exact ⟨⟨_, rfl⟩, 0, rfl⟩
set_option maxRecDepth 100000 in
set_option maxHeartbeats 2000000 in
theorem drounddown (B : Nat) (x : Nat → Nat) (n : Nat) (dp : Int) (ng tr : Bool) (nd : Nat) (w : World) (hD : Dec w B x n dp ng tr) (h8 : n ≤ 800) (h : nd < n) :
    Calls Tryz.prog 210 #[.pointer (some ⟨B, 0, none⟩), .int .i64 nd] w fun en w' => en = .returned (.tuple #[]) ∧ Kept [B] w w' ∧
      ∃ n' dp', Dec w' B x n' dp' ng tr ∧ n' ≤ n ∧ (dp' = dp ∨ dp' = 0) := by
  have cN := hD.n
  have hf := hD.free
  go_enter Tryz.func210, Tryz.ntmps210
  go_wp2_with fail
  refine (dtrim B x nd dp ng tr _ (hD.setN nd) (by omega)).mono ?_
  rintro en w' ⟨rfl, hKt, nd', dp', hDt, hnd', _, hdp', hdp0⟩
  go_wp2_with fail
  go_end0
  refine ⟨rfl, Kept.trans ((Kept.refl _ _).set1 _ _) hKt (fun _ h => h) (fun _ h _ => h), nd', dp', hDt, by omega, ?_⟩
  rcases Nat.eq_zero_or_pos nd' with h0 | h0
  · exact .inr (hdp0 h0)
  · exact .inl (hdp' h0)
set_option maxRecDepth 100000 in
set_option maxHeartbeats 2000000 in
theorem droundup (B : Nat) (x : Nat → Nat) (n : Nat) (dp : Int) (ng tr : Bool) (nd : Nat) (w : World) (hD : Dec w B x n dp ng tr) (h8 : n ≤ 800) (hd : Dg x n) (h : nd < n) (hp1 : -1000000000 ≤ dp) (hp2 : dp ≤ 1000000000) :
    Calls Tryz.prog 209 #[.pointer (some ⟨B, 0, none⟩), .int .i64 nd] w fun en w' => en = .returned (.tuple #[]) ∧ Kept [B] w w' ∧
      ∃ x' n' dp', Dec w' B x' n' dp' ng tr ∧ Dg x' n' ∧ n' ≤ n ∧ (dp' = dp ∨ dp' = dp + 1) := by
  have cN := hD.n
  have hf := hD.free
  go_enter Tryz.func209, Tryz.ntmps209
  go_wp2_with fail
  go_loop [4] (fun vi => ∃ i : Nat, i ≤ nd ∧ vi = .int .i64 ((i : Int) - 1)) (fun vi => (intOf vi + 1).toNat)
  case atStart => exact ⟨nd, by omega, rfl⟩
  case round =>
    obtain ⟨i, hi, rfl⟩ := hrel
    by_cases h0 : 0 < i
    · obtain ⟨j, rfl⟩ : ∃ j, i = j + 1 := ⟨i - 1, by omega⟩
      have cJ := hD.dig j (by omega)
      have hxj := hd j (by omega)
      by_cases h9 : x j < 57
      · go_wp2_with fail
        go_region
        go_wp2_with fail
        refine bodyPost_ret (results_none rfl _ _ _) rfl ?_
        have D3 := ((hD.setD (i := j) (by omega) (x j + 1)).setN (j + 1)).drew
        have K3 := (((Kept.refl [B] w).set1 j (.int .u8 ((x j + 1 : Nat) : Int))).set1 800 (.int .i64 ((j + 1 : Nat) : Int))).drew
        exact ⟨rfl, K3, _, j + 1, dp, D3, Dg.snoc (fun a ha => hd a (by omega)) (by omega) (by omega), by omega, .inl rfl⟩
      · go_wp2_with fail
        exact ⟨⟨j, by omega, congrArg (Value.int .i64) (by omega)⟩, by simp [intOf]⟩
    · obtain rfl : i = 0 := by omega
      have cP := hD.p
      have c0 := hD.dig 0 (by omega)
      have hoff := cell_set_off
      go_wp2_with fail
      go_end0
      have D3 := ((hD.setD (i := 0) (by omega) 49).setN 1).setP (dp + 1)
      have K3 := (((Kept.refl [B] w).set1 0 (.int .u8 ((49 : Nat) : Int))).set1 800 (.int .i64 ((1 : Nat) : Int))).set1 801 (.int .i64 (dp + 1))
      exact ⟨rfl, K3, _, 1, dp + 1, D3, Dg.snoc (fun a ha => by omega) (by omega) (by omega), by omega, .inr rfl⟩
set_option maxRecDepth 100000 in
set_option maxHeartbeats 2000000 in
theorem dround (B : Nat) (x : Nat → Nat) (n : Nat) (dp : Int) (ng tr : Bool) (nd : Int) (w : World) (hD : Dec w B x n dp ng tr) (h8 : n ≤ 800) (hd : Dg x n) (hp1 : -1000000000 ≤ dp) (hp2 : dp ≤ 1000000000) :
    Calls Tryz.prog 156 #[.pointer (some ⟨B, 0, none⟩), .int .i64 nd] w fun en w' => en = .returned (.tuple #[]) ∧ Kept [B] w w' ∧
      ∃ x' n' dp', Dec w' B x' n' dp' ng tr ∧ Dg x' n' ∧ n' ≤ n ∧ (dp' = dp ∨ dp' = dp + 1 ∨ dp' = 0) := by
  have cN := hD.n
  by_cases h1 : nd < 0
  · go_enter Tryz.func156, Tryz.ntmps156
    go_wp2_with fail
    refine bodyPost_ret (results_none rfl _ _ _) rfl ?_
    exact ⟨rfl, Kept.refl _ _, x, n, dp, hD, hd, by omega, .inl rfl⟩
  · obtain ⟨m, rfl⟩ : ∃ m : Nat, nd = m := ⟨nd.toNat, by omega⟩
    by_cases h2 : n ≤ m
    · go_enter Tryz.func156, Tryz.ntmps156
      go_wp2_with fail
      refine bodyPost_ret (results_none rfl _ _ _) rfl ?_
      exact ⟨rfl, Kept.refl _ _, x, n, dp, hD, hd, by omega, .inl rfl⟩
    · go_enter Tryz.func156, Tryz.ntmps156
      go_wp2_with fail
      refine (dshould B x n dp ng tr _ w hD h8 hd).mono ?_
      rintro en w' ⟨⟨b, rfl⟩, k, rfl⟩
      have D2 := hD.drewN k
      have K2 := (Kept.refl [B] w).drewN k
      generalize w.drewN k = w2 at D2 K2
      cases b
      · go_wp2_with fail
        refine (drounddown B x n dp ng tr m w2 D2 h8 (by omega)).mono ?_
        rintro en w3 ⟨rfl, K3, n', dp', D3, hn, hdp⟩
        go_wp2_with fail
        go_end0
        refine ⟨rfl, Kept.trans K2 K3 (fun _ h => h) (fun _ h _ => h), x, n', dp', D3, fun i hi => hd i (by omega), hn, ?_⟩
        rcases hdp with h | h
        · exact .inl h
        · exact .inr (.inr h)
      · go_wp2_with fail
        refine (droundup B x n dp ng tr m w2 D2 h8 hd (by omega) hp1 hp2).mono ?_
        rintro en w3 ⟨rfl, K3, x', n', dp', D3, hd3, hn, hdp⟩
        go_wp2_with fail
        go_end0
        refine ⟨rfl, Kept.trans K2 K3 (fun _ h => h) (fun _ h _ => h), x', n', dp', D3, hd3, hn, ?_⟩
        rcases hdp with h | h
        · exact .inl h
        · exact .inr (.inl h)
end Go.Proofs.YtfkecmlmnhbmoaaGreatDoor
namespace Go.Proofs.YtfkecmlmnhbmoaaGreatDoor
/-- The number of the first i digits. -/
def num (x : Nat → Nat) : Nat → Nat
  | 0 => 0
  | i + 1 => num x i * 10 + (x i - 48)
theorem num_lt {x : Nat → Nat} : ∀ {n : Nat}, Dg x n → num x n < 10 ^ n
  | 0, _ => by simp [num]
  | n + 1, h => by
    have := num_lt (n := n) (fun i hi => h i (by omega))
    have h2 := h n (by omega)
    unfold num
    rw [Nat.pow_succ]; omega
theorem num_ge {x : Nat → Nat} (h0 : x 0 ≠ 48) : ∀ {n : Nat}, Dg x (n + 1) → 10 ^ n ≤ num x (n + 1)
  | 0, h => by have := h 0 (by omega); simp [num]; omega
  | n + 1, h => by
    have := num_ge h0 (n := n) (fun i hi => h i (by omega))
    show _ ≤ num x (n + 1) * 10 + _
    rw [Nat.pow_succ]; omega
theorem num_top {x : Nat → Nat} : ∀ (j : Nat) {n : Nat}, Dg x (n + j) → num x (n + j) / 10 ^ j = num x n
  | 0, n, _ => by simp
  | j + 1, n, h => by
    have ih := num_top j (n := n) (fun i hi => h i (by omega))
    have hd := h (n + j) (by omega)
    show (num x (n + j) * 10 + (x (n + j) - 48)) / 10 ^ (j + 1) = _
    rw [Nat.pow_succ, Nat.mul_comm (10 ^ j) 10, ← Nat.div_div_eq_div_mul, ← ih]
    congr 1; omega
theorem num_digit {x : Nat → Nat} {n j : Nat} (h : Dg x n) (hj : j < n) : num x n / 10 ^ j % 10 = x (n - 1 - j) - 48 := by
  obtain ⟨m, rfl⟩ : ∃ m, n = m + 1 + j := ⟨n - 1 - j, by omega⟩
  rw [num_top j h]
  have hd := h m (by omega)
  rw [show m + 1 + j - 1 - j = m by omega]
  show (num x m * 10 + (x m - 48)) % 10 = _
  omega
/-- One digit further: the carry. -/
theorem carry_step (D P j : Nat) : ((D % 10 ^ j) * P / 10 ^ j + (D / 10 ^ j % 10) * P) / 10 = (D % 10 ^ (j + 1)) * P / 10 ^ (j + 1) := by
  have hp : 0 < 10 ^ j := Nat.pow_pos (by decide)
  rw [Nat.mod_pow_succ, Nat.pow_succ, ← Nat.div_div_eq_div_mul, Nat.add_mul, Nat.mul_assoc (10 ^ j), Nat.add_mul_div_left _ _ hp]
theorem carry_lt (D P j : Nat) (hP : 0 < P) : (D % 10 ^ j) * P / 10 ^ j < P := by
  have hp : 0 < 10 ^ j := Nat.pow_pos (by decide)
  rw [Nat.div_lt_iff_lt_mul hp, Nat.mul_comm P]
  exact Nat.mul_lt_mul_of_lt_of_le (Nat.mod_lt _ hp) (Nat.le_refl _) hP
/-- How many digits a shift by k adds, at the most. -/
def dlt (k : Nat) : Nat := if k = 0 then 0 else Lib.nDigits (2 ^ k)
/-- The bytes below which it adds one fewer. -/
def cut (k : Nat) : List UInt8 := if k = 0 then [] else Lib.decDigits (5 ^ k)
theorem dlt_fin : ∀ k : Fin 61, k.val = 0 ∨ (Lib.nDigits (5 ^ k.val) + Lib.nDigits (2 ^ k.val) = k.val + 1 ∧ 1 ≤ Lib.nDigits (2 ^ k.val) ∧ Lib.nDigits (2 ^ k.val) ≤ 19 ∧ 2 ^ k.val < 10 ^ Lib.nDigits (2 ^ k.val) ∧ 10 ^ (Lib.nDigits (2 ^ k.val) - 1) ≤ 2 ^ k.val) := by
  decide +kernel
end Go.Proofs.YtfkecmlmnhbmoaaGreatDoor
namespace Go.Proofs.YtfkecmlmnhbmoaaGreatDoor
open Go.RowKit
theorem p10 (n : Nat) : 0 < 10 ^ n := Nat.pow_pos (by decide)
theorem top_split {S c i : Nat} (hi : i < c) : S / 10 ^ (c - 1 - i) = S / 10 ^ (c - i) * 10 + S / 10 ^ (c - 1 - i) % 10 := by
  obtain ⟨e, rfl⟩ : ∃ e, c = i + 1 + e := ⟨c - i - 1, by omega⟩
  rw [show i + 1 + e - 1 - i = e by omega, show i + 1 + e - i = e + 1 by omega, Nat.pow_succ, ← Nat.div_div_eq_div_mul]
  omega
theorem num_high {x : Nat → Nat} {n i : Nat} (h : Dg x n) (hi : i ≤ n) : num x i * 10 ^ (n - i) ≤ num x n ∧ num x n < (num x i + 1) * 10 ^ (n - i) := by
  obtain ⟨j, rfl⟩ : ∃ j, n = i + j := ⟨n - i, by omega⟩
  have := num_top j h
  rw [Nat.add_sub_cancel_left, ← this]
  exact ⟨Nat.div_mul_le_self _ _, (Nat.div_lt_iff_lt_mul (p10 j)).1 (Nat.lt_succ_self _)⟩
theorem pow3 {c n i : Nat} (hi : i ≤ c) (hn : i ≤ n) (T : Nat) : T * 10 ^ (n - i) * 10 ^ c = T * 10 ^ (c - i) * 10 ^ n := by
  rw [Nat.mul_assoc, Nat.mul_assoc, ← Nat.pow_add, ← Nat.pow_add, show n - i + c = c - i + n by omega]
theorem pre_less {x : Nat → Nat} {S c n i : Nat} (h : Dg x n) (hi : i < c) (hn : i < n) (e : num x i = S / 10 ^ (c - i)) (hl : x i - 48 < S / 10 ^ (c - 1 - i) % 10) : num x n * 10 ^ c < S * 10 ^ n := by
  have h1 := top_split (S := S) hi
  have h2 : num x (i + 1) + 1 ≤ S / 10 ^ (c - (i + 1)) := by
    show num x i * 10 + (x i - 48) + 1 ≤ _
    rw [show c - (i + 1) = c - 1 - i by omega, e]; omega
  have h3 := (num_high h (show i + 1 ≤ n by omega)).2
  have h4 : num x n < S / 10 ^ (c - (i + 1)) * 10 ^ (n - (i + 1)) := Nat.lt_of_lt_of_le h3 (Nat.mul_le_mul_right _ h2)
  have h5 := Nat.mul_lt_mul_of_pos_right h4 (p10 c)
  rw [pow3 (by omega) (by omega)] at h5
  exact Nat.lt_of_lt_of_le h5 (Nat.mul_le_mul_right _ (Nat.div_mul_le_self _ _))
theorem pre_more {x : Nat → Nat} {S c n i : Nat} (h : Dg x n) (hi : i < c) (hn : i < n) (e : num x i = S / 10 ^ (c - i)) (hl : S / 10 ^ (c - 1 - i) % 10 < x i - 48) : S * 10 ^ n ≤ num x n * 10 ^ c := by
  have h1 := top_split (S := S) hi
  have h2 : S / 10 ^ (c - (i + 1)) + 1 ≤ num x (i + 1) := by
    show _ ≤ num x i * 10 + (x i - 48)
    rw [show c - (i + 1) = c - 1 - i by omega, e]; omega
  have h3 := (num_high h (show i + 1 ≤ n by omega)).1
  have h4 : S < (S / 10 ^ (c - (i + 1)) + 1) * 10 ^ (c - (i + 1)) := (Nat.div_lt_iff_lt_mul (p10 _)).1 (Nat.lt_succ_self _)
  have h5 : S * 10 ^ n ≤ (S / 10 ^ (c - (i + 1)) + 1) * 10 ^ (c - (i + 1)) * 10 ^ n := Nat.mul_le_mul_right _ (Nat.le_of_lt h4)
  rw [← pow3 (by omega) (by omega)] at h5
  exact Nat.le_trans h5 (Nat.mul_le_mul_right _ (Nat.le_trans (Nat.mul_le_mul_right _ h2) h3))
theorem pre_all {x : Nat → Nat} {S c n : Nat} (h : Dg x n) (hc : c ≤ n) (e : num x c = S / 10 ^ (c - c)) : S * 10 ^ n ≤ num x n * 10 ^ c := by
  rw [Nat.sub_self, Nat.pow_zero, Nat.div_one] at e
  have h3 := (num_high h hc).1
  rw [e] at h3
  have := pow3 (n := n) (Nat.le_refl c) hc S
  rw [Nat.sub_self, Nat.pow_zero, Nat.mul_one] at this
  rw [← this]
  exact Nat.mul_le_mul_right _ h3
theorem pre_short {x : Nat → Nat} {S c n : Nat} (hn : n < c) (e : num x n = S / 10 ^ (c - n)) (hS : S % 10 ≠ 0) : num x n * 10 ^ c < S * 10 ^ n := by
  obtain ⟨m, hm⟩ : ∃ m, c - n = m + 1 := ⟨c - n - 1, by omega⟩
  have h1 : num x n * 10 ^ (c - n) < S := by
    have h2 := Nat.div_mul_le_self S (10 ^ (c - n))
    rw [← e] at h2
    rcases Nat.lt_or_ge (num x n * 10 ^ (c - n)) S with h | h
    · exact h
    · have e2 : S = num x n * 10 ^ (c - n) := by omega
      rw [hm, Nat.pow_succ, ← Nat.mul_assoc] at e2
      exact absurd (by rw [e2]; exact Nat.mul_mod_left _ _) hS
  have h3 := Nat.mul_lt_mul_of_pos_right h1 (p10 n)
  rwa [Nat.mul_assoc, ← Nat.pow_add, Nat.sub_add_cancel (by omega)] at h3
/-- What the comparison of the first digits comes back with. -/
def PreB (e : Ending) (D c S n : Nat) : Prop := ∃ b : Bool, e = .returned (.bool b) ∧ (b = true → D * 10 ^ c < S * 10 ^ n) ∧ (b = false → S * 10 ^ n ≤ D * 10 ^ c)
set_option maxRecDepth 100000 in
set_option maxHeartbeats 2000000 in
theorem prefixlt (B : Nat) (x : Nat → Nat) (nd cap S c : Nat) (s : ByteArray) (w : World) (hc : ∀ i, i < nd → w.cell? ⟨B, i, none⟩ = some (.int .u8 (x i : Nat))) (h8 : nd ≤ 800) (hd : Dg x nd)
    (hs : s.size = c) (hc60 : c ≤ 100) (hsd : ∀ i (h : i < s.size), (s[i]'h).toNat = 48 + S / 10 ^ (c - 1 - i) % 10) (hS : S % 10 ≠ 0) (hS2 : S < 10 ^ c) :
    Calls Tryz.prog 234 #[.slice (some ⟨B, 0, none⟩) nd cap, .string s] w fun en w' => PreB en (num x nd) c S nd ∧ ∃ k, w' = w.drewN k := by
  go_enter Tryz.func234, Tryz.ntmps234
  go_wp2_with fail
  go_loopw [5] (fun vi wr => ∃ i : Nat, i ≤ c ∧ i ≤ nd ∧ vi = .int .i64 i ∧ num x i = S / 10 ^ (c - i) ∧ ∃ k, wr = w.drewN k) (fun vi _ => c - (intOf vi).toNat)
  case atStart => exact ⟨0, by omega, by omega, rfl, by rw [Nat.sub_zero, Nat.div_eq_of_lt hS2]; rfl, 0, rfl⟩
  case round =>
    obtain ⟨i, hic, hin, rfl, he, k, rfl⟩ := hrel
    by_cases h1 : i < c
    · by_cases h2 : i < nd
      · have his : i < s.size := by omega
        have cI := hc i h2
        have hq := hsd i his
        have hx := hd i h2
        have hsp := top_split (S := S) h1
        obtain ⟨q, hq0⟩ : ∃ q, q = S / 10 ^ (c - 1 - i) % 10 := ⟨_, rfl⟩
        rw [← hq0] at hq
        have hq9 : q ≤ 9 := by omega
        have less := fun h => pre_less hd h1 h2 he (by rw [← hq0]; exact h)
        have more := fun h => pre_more hd h1 h2 he (by rw [← hq0]; exact h)
        have same : x i = 48 + q → num x (i + 1) = S / 10 ^ (c - (i + 1)) := fun h => by
          show num x i * 10 + (x i - 48) = _
          rw [show c - (i + 1) = c - 1 - i by omega, he]; omega
        have L := Lib.hid less; have M := Lib.hid more; have E := Lib.hid same
        clear less more same hsp hq0 he hsd
        have hd0 := Lib.hid hd; clear hd
        go_wp2_with fail
        go_quiet (fail)
        go_wp2_with fail
        · have hne : (x i : Int) ≠ 48 + q := by simpa using ‹((x i : Int) != 48 + (q : Int)) = true›
          generalize nq = a0
          go_quiet (fail)
          go_wp2_with fail
          go_ret
          refine ⟨⟨decide ((x i : Int) < 48 + q), rfl, fun h => L.out ?_, fun h => M.out ?_⟩, k + a0 + nq, ?_⟩
          · have := of_decide_eq_true h; omega
          · have := of_decide_eq_false h; omega
          · rw [World.drewN_drewN, World.drewN_drewN, Nat.add_assoc]
        · have hne : (x i : Int) = 48 + q := by simpa using ‹((x i : Int) != 48 + (q : Int)) = false›
          exact ⟨⟨i + 1, by omega, by omega, rfl, E.out (by omega), k + nq, rfl⟩, by simp [intOf]; omega⟩
      · obtain rfl : i = nd := by omega
        go_wp2_with fail
        go_ret
        exact ⟨⟨true, rfl, fun _ => pre_short h1 he hS, fun h => by cases h⟩, k, rfl⟩
    · obtain rfl : i = c := by omega
      go_wp2_with fail
      go_ret
      exact ⟨⟨false, rfl, (fun h => by cases h), fun _ => pre_all hd hin he⟩, k, rfl⟩
theorem prefixlt' (B : Nat) (x : Nat → Nat) (nd cap S c : Nat) (s : ByteArray) (w : World) (hc : ∀ i, i < nd → w.cell? ⟨B, i, none⟩ = some (.int .u8 (x i : Nat))) (h8 : nd ≤ 800) (hd : Dg x nd)
    (hs : s.size = c) (hc60 : c ≤ 100) (hsd : ∀ i (h : i < s.size), (s[i]'h).toNat = 48 + S / 10 ^ (c - 1 - i) % 10) (hS : S % 10 ≠ 0) (hS2 : S < 10 ^ c) :
    Calls Tryz.prog 234 #[.slice (some ⟨B, 0, none⟩) nd cap, .string s] w fun en w' => en = .returned (.bool (decide (num x nd * 10 ^ c < S * 10 ^ nd))) ∧ ∃ k, w' = w.drewN k :=
  (prefixlt B x nd cap S c s w hc h8 hd hs hc60 hsd hS hS2).mono fun en w' ⟨⟨b, h, h1, h2⟩, h3⟩ => ⟨by
    rw [h]; cases b
    · rw [decide_eq_false (by have := h2 rfl; omega)]
    · rw [decide_eq_true (h1 rfl)], h3⟩
end Go.Proofs.YtfkecmlmnhbmoaaGreatDoor
