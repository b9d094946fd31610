import Derived.Test.YtfkecmlmnhbmoaaGreatDoorDs05
import Derived.Test.YtfkecmlmnhbmoaaGreatDoorDs04
import Derived.Test.YtfkecmlmnhbmoaaGreatDoorDs06
namespace Go.Proofs.YtfkecmlmnhbmoaaGreatDoor
open Go.RowKit
/-- What the float's functions want of the program's tables, that lie below N. -/
structure Tabs (N : Nat) (w : World) : Prop where
  low : 25 < N
  opt : w.cell? ⟨10, 0, none⟩ = some (.bool true)
  tab : Lib.TabIs Tryz.prog w "internal/strconv.uint64pow10" .u64 Lib.pow10Tab
  ten : ∀ i, i < 1392 → ∃ x, U x ∧ w.cell? ⟨24, i, none⟩ = some (.int .u64 x)
  info0 : w.cell? ⟨18, 0, none⟩ = some (.int .u64 52)
  info1 : w.cell? ⟨18, 1, none⟩ = some (.int .u64 11)
  info2 : w.cell? ⟨18, 2, none⟩ = some (.int .i64 (-1023))
theorem pow10g : Tryz.prog.globalNamed "internal/strconv.uint64pow10" = some 2 := by kernel_rfl
theorem Tabs.pow {N : Nat} {w : World} (h : Tabs N w) (i : Nat) (hi : i < 20) : w.cell? ⟨2, i, none⟩ = some (.int .u64 (10 ^ i : Nat)) := by
  have := h.tab.cell pow10g i (by rw [Lib.pow10Tab_length]; exact hi)
  rwa [Lib.pow10Tab_at i hi] at this
theorem Tabs.kept {N : Nat} {w w' : World} {X : List Nat} (h : Tabs N w) (hk : Kept X w w') (hN : N ≤ w.heap.size) (hX : ∀ x ∈ X, N ≤ x) : Tabs N w' := by
  have hl := h.low
  have k : ∀ b o, b < N → w'.cell? ⟨b, o, none⟩ = w.cell? ⟨b, o, none⟩ := fun b o hb => hk.cell (by omega) (fun hm => by have := hX _ hm; omega)
  have hh : w'.heap[2]? = w.heap[2]? := hk.block 2 (by omega) (fun hm => by have := hX _ hm; omega)
  refine ⟨hl, (k _ _ (by omega)).trans h.opt, ?_, fun i hi => ?_, (k _ _ (by omega)).trans h.info0, (k _ _ (by omega)).trans h.info1, (k _ _ (by omega)).trans h.info2⟩
  · have := h.tab
    unfold Lib.TabIs World.var? at this ⊢
    rw [pow10g] at this ⊢
    simp only [Option.bind_some] at this ⊢
    rw [hh]
    exact this
  · obtain ⟨x, hx, hc⟩ := h.ten i hi
    exact ⟨x, hx, (k _ _ (by omega)).trans hc⟩
set_option maxHeartbeats 800000 in
theorem prescale (B : Nat) (e p lp : Int) (x0 x1 x2 : Value) (w : World) (N : Nat) (ht : Tabs N w) (hN : N ≤ B) (hB : w.heap[B]? = some (.cells #[x0, x1, x2] 294 (0, 0)))
    (hp : -348 ≤ p) (hp2 : p ≤ 347) (he : -4000 ≤ e) (he2 : e ≤ 4000) (hl : -4000 ≤ lp) (hl2 : lp ≤ 4000) :
    Calls Tryz.prog 196 #[.pointer (some ⟨B, 0, none⟩), .int .i64 e, .int .i64 p, .int .i64 lp] w fun en w' =>
      ∃ a b : Int, U a ∧ U b ∧ en = .returned (.tuple #[]) ∧ w'.heap[B]? = some (.cells #[.int .u64 a, .int .u64 b, .int .i64 (-(e + lp + 3))] 294 (0, 0)) ∧ Kept [B] w w' := by
  have hlt := lt_of_block hB
  obtain ⟨a, ha, c0⟩ := ht.ten ((p + 348).toNat * 2) (by omega)
  obtain ⟨b, hb, c1⟩ := ht.ten ((p + 348).toNat * 2 + 1) (by omega)
  have hlow := ht.low
  have hne : B ≠ 24 := by omega
  have r0 := fun (X : World) (i j : Nat) (u : Value) => cell_set_other hne i j X u
  have e0 : w.cell? ⟨B, 0, none⟩ = some x0 := by simp [World.cell?, hB]
  have e1 : w.cell? ⟨B, 1, none⟩ = some x1 := by simp [World.cell?, hB]
  have e2 : w.cell? ⟨B, 2, none⟩ = some x2 := by simp [World.cell?, hB]
  have f0 : ∀ o, w.frozen? ⟨B, o, none⟩ = false := by intro o; simp [World.frozen?, hB]
  have hoff := cell_set_off
  have H := Lib.hid hB; clear hB
  go_enter Tryz.func196, Tryz.ntmps196
  go_wp2_with fail
  go_end0
  refine ⟨a, b, ha, hb, rfl, ?_, ?_⟩
  · have h1 := block_set H.out 0 (.int .u64 a)
    have h2 := block_set h1 1 (.int .u64 b)
    have h3 := block_set h2 2 (.int .i64 (-(e + lp + 3)))
    simpa using h3
  · exact (((Kept.refl [B] w).setCell (.inr (List.mem_singleton.2 rfl)) _).setCell (.inr (List.mem_singleton.2 rfl)) _).setCell (.inr (List.mem_singleton.2 rfl)) _
theorem and63 (s : Int) : 0 ≤ bits .and .i64 s 63 ∧ bits .and .i64 s 63 ≤ 63 := by
  have h : ∀ n : Nat, n ≤ 63 → IntKind.i64.wrap (n : Int) = n := by intro n hn; rw [IntKind.wrap_i64]; omega
  unfold bits
  have h2 : ((BitVec.ofInt IntKind.i64.bits s) &&& (BitVec.ofInt IntKind.i64.bits 63)).toNat ≤ 63 := by
    rw [BitVec.toNat_and]
    exact Nat.le_trans Nat.and_le_right (Nat.le_of_eq (by kernel_rfl))
  dsimp only
  rw [h _ h2]
  exact ⟨Int.natCast_nonneg _, Int.ofNat_le.2 h2⟩
theorem Kept.drewN {X : List Nat} {a w : World} (h : Kept X a w) : ∀ n, Kept X a (w.drewN n)
  | 0 => h
  | n + 1 => (h.drewN n).drew
set_option maxHeartbeats 800000 in
set_option maxRecDepth 100000 in
theorem uscale (B : Nat) (x a b s : Int) (w : World) (hx : U x) (ha : U a) (hb : U b) (c0 : w.cell? ⟨B, 0, none⟩ = some (.int .u64 a)) (c1 : w.cell? ⟨B, 1, none⟩ = some (.int .u64 b)) (c2 : w.cell? ⟨B, 2, none⟩ = some (.int .i64 s)) :
    Calls Tryz.prog 198 #[.int .u64 x, .pointer (some ⟨B, 0, none⟩)] w fun en w' => (∃ r : Int, U r ∧ en = .returned (.int .u64 r)) ∧ ∃ n, w' = w.drewN n := by
  have h63 := and63 s
  obtain ⟨h630, h631⟩ := h63
  generalize hk : bits .and .i64 s 63 = k at h630 h631
  go_enter Tryz.func198, Tryz.ntmps198
  go_wp2_with fail
  refine (mul64 _ _ _ hx ha).mono ?_
  rintro e w' ⟨⟨hi, mid, ⟨u1, u2⟩, ⟨u3, u4⟩, rfl⟩, rfl⟩
  go_wp2_with fail
  · go_ret
    exact ⟨⟨_, U_bits _ _ _, rfl⟩, 0, rfl⟩
  refine (mul64 _ _ _ hx hb).mono ?_
  rintro e w' ⟨⟨hi2, mid2, ⟨u5, u6⟩, ⟨u7, u8⟩, rfl⟩, rfl⟩
  go_wp2_with fail
  refine (b2u _ _).mono ?_
  rintro e w' ⟨rfl, rfl⟩
  obtain ⟨v1, v2⟩ := U_bi (decide (mid < hi2))
  go_wp2_with fail
  go_quiet ((go_at_call 188; exact Calls.quiet_of_same (b2u' _ _)))
  go_wp2_with fail
  go_ret
  exact ⟨⟨_, U_bits _ _ _, rfl⟩, nq, rfl⟩
end Go.Proofs.YtfkecmlmnhbmoaaGreatDoor
