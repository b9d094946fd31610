import Derived.Test.YtfkecmlmnhbmoaaGreatDoorFk27
import Derived.Test.YtfkecmlmnhbmoaaGreatDoorFk08
namespace Go.Proofs.YtfkecmlmnhbmoaaGreatDoor
open Go.RowKit Go.Sort
/-- Kept behind a world with tables. -/
theorem Kept.tabs {N : Nat} {W0 w : World} (hk : Kept [] W0 w) (ht : Tabs N W0) (hN : N ≤ W0.heap.size) : Tabs N w := ht.kept hk hN (by simp)
set_option maxHeartbeats 800000 in
theorem prescaleF (e p lp : Int) (W0 : World) (N : Nat) (ht : Tabs N W0) (hN : N ≤ W0.heap.size) (hp : -348 ≤ p) (hp2 : p ≤ 347) (he : -4000 ≤ e) (he2 : e ≤ 4000) (hl : -4000 ≤ lp) (hl2 : lp ≤ 4000) :
    ∃ a b : Int, (U a ∧ U b) ∧ ∀ (B : Nat) (x0 x1 x2 : Value) (w : World), Kept [] W0 w → N ≤ B → w.heap[B]? = some (.cells #[x0, x1, x2] 294 (0, 0)) →
      Calls Tryz.prog 196 #[.pointer (some ⟨B, 0, none⟩), .int .i64 e, .int .i64 p, .int .i64 lp] w fun en w' =>
        en = .returned (.tuple #[]) ∧ w'.heap[B]? = some (.cells #[.int .u64 a, .int .u64 b, .int .i64 (-(e + lp + 3))] 294 (0, 0)) ∧ Kept [B] w w' := by
  obtain ⟨a, ha, d0⟩ := ht.ten ((p + 348).toNat * 2) (by omega)
  obtain ⟨b, hb, d1⟩ := ht.ten ((p + 348).toNat * 2 + 1) (by omega)
  refine ⟨a, b, ⟨ha, hb⟩, fun B x0 x1 x2 w hkw hNB hB => ?_⟩
  have hlt := lt_of_block hB
  have hlow := ht.low
  have c0 := (hkw.cell (b := 24) (o := (p + 348).toNat * 2) (by omega) (by simp)).trans d0
  have c1 := (hkw.cell (b := 24) (o := (p + 348).toNat * 2 + 1) (by omega) (by simp)).trans d1
  have hne : B ≠ 24 := by omega
  have r0 := fun (X : World) (i j : Nat) (u : Value) => cell_set_other hne i j X u
  have e0 : w.cell? ⟨B, 0, none⟩ = some x0 := by simp [World.cell?, hB]
  have e1 : w.cell? ⟨B, 1, none⟩ = some x1 := by simp [World.cell?, hB]
  have e2 : w.cell? ⟨B, 2, none⟩ = some x2 := by simp [World.cell?, hB]
  have f0 : ∀ o, w.frozen? ⟨B, o, none⟩ = false := by intro o; simp [World.frozen?, hB]
  have hoff := cell_set_off
  have H := Lib.hid hB; clear hB d0 d1
  go_enter Tryz.func196, Tryz.ntmps196
  go_wp2_with fail
  go_end0
  refine ⟨rfl, ?_, ?_⟩
  · have h1 := block_set H.out 0 (.int .u64 a)
    have h2 := block_set h1 1 (.int .u64 b)
    have h3 := block_set h2 2 (.int .i64 (-(e + lp + 3)))
    simpa using h3
  · exact (((Kept.refl [B] w).setCell (.inr (List.mem_singleton.2 rfl)) _).setCell (.inr (List.mem_singleton.2 rfl)) _).setCell (.inr (List.mem_singleton.2 rfl)) _
/-- The first n cells of a block are these digits. -/
structure DigX (w : World) (B : Nat) (x : Nat → Nat) (n : Nat) : Prop where
  row : ∃ cs t, w.heap[B]? = some (.cells cs t (0, 0)) ∧ t ≠ 5
  dig : ∀ i, i < n → 48 ≤ x i ∧ x i ≤ 57 ∧ w.cell? ⟨B, i, none⟩ = some (.int .u8 (x i : Nat))
theorem DigX.same {w w' : World} {B n : Nat} {x : Nat → Nat} (h : DigX w B x n) (e : w'.heap[B]? = w.heap[B]?) : DigX w' B x n :=
  ⟨by rw [e]; exact h.row, fun i hi => ⟨(h.dig i hi).1, (h.dig i hi).2.1, (World.cell?_of_block (w := w) e).trans (h.dig i hi).2.2⟩⟩
theorem numdigF (d : Nat) (w : World) (N : Nat) (ht : Tabs N w) (h1 : 1 ≤ d) (h2 : d < 18446744073709551616) :
    Calls Tryz.prog 91 #[.int .u64 d] w fun en w' => en = .returned (.int .i64 (Lib.nDigits d)) ∧ w' = w :=
  Tryz.internal_strconv_numDigits d h1 h2 w ht.tab
/-- The digits of a number, from the first on. -/
def dgx (d nd : Nat) (j : Nat) : Nat := (Lib.dg d (nd - 1 - j)).toNat
def cutF (x : Nat → Nat) (k : Nat) : Option Nat := if 0 < k then (if x (k - 1) = 48 then some (k - 1) else none) else none
set_option maxHeartbeats 800000 in
theorem setdigitsF (d nd : Nat) (p : Int) (h1 : 1 ≤ nd) (h20 : nd ≤ 20) (hd : d < 10 ^ nd) (hd2 : d < 18446744073709551616) (hp : -4000 ≤ p) (hp2 : p ≤ 4000) :
    ∃ k : Nat, k ≤ nd ∧ ∀ (B : Nat) (w : World) (cs : Array Value), Holds encB w B 0 (Array.replicate nd (0 : UInt8)) → w.heap[B]? = some (.cells cs 156 (0, 0)) →
      Calls Tryz.prog 152 #[.slice (some ⟨B, 0, none⟩) 24 24, .int .u64 d, .int .i64 p, .int .i64 nd] w fun en w' =>
        (en = .returned (.tuple #[.int .i64 (nd + p), .int .i64 k]) ∧ DigX w' B (dgx d nd) k) ∧ Kept [B] w w' := by
  obtain ⟨k0, hT, hk0, _⟩ := Tr.ends (f := cutF (dgx d nd)) (fun k => k) (fun k => k ≤ nd) (fun s t hs e => by
    unfold cutF at e
    split at e
    · split at e
      · cases e; omega
      · cases e
    · cases e) nd nd (Nat.le_refl _) (Nat.le_refl _)
  refine ⟨k0, hk0, fun B w cs hH hB => ?_⟩
  have hf := Tryz.internal_strconv_formatBase10 B 0 24 d (Array.replicate nd 0) w hH (by rw [Array.size_replicate]; exact hd) hd2 (by rw [Array.size_replicate]; omega)
  rw [Array.size_replicate] at hf
  have HF := Lib.hid hf; clear hf
  go_enter Tryz.func152, Tryz.ntmps152
  go_wp2_with fail
  refine HF.out.mono ?_
  rintro e w' ⟨rfl, n, v', dk, rfl, hI⟩
  have hc : ∀ j, j < nd → ((putRow encB w B 0 dk).drewN n).cell? ⟨B, j, none⟩ = some (.int .u8 (dgx d nd j : Nat)) := fun j hj => by
    have := cell?_putRow encB w B 0 _ dk hH (by rw [hI.size, Array.size_replicate]) j (by rw [hI.size]; exact hj)
    rw [Nat.zero_add] at this
    rw [World.cell?_drewN, this]
    have e := hI.done j (by omega) hj
    rw [e]
    rfl
  have hk : Kept [B] w ((putRow encB w B 0 dk).drewN n) := ((Kept.refl [B] w).putRow (.inr (List.mem_singleton.2 rfl)) dk).drewN n
  have hr : ∃ cs t, ((putRow encB w B 0 dk).drewN n).heap[B]? = some (.cells cs t (0, 0)) ∧ t ≠ 5 := by
    refine ⟨putCells encB 0 dk cs, 156, ?_, by decide⟩
    rw [Tryz.drewN_heap]
    simp [Sort.putRow, mapBlock, Array.getElem?_modify, hB, onCells]
  generalize (putRow encB w B 0 dk).drewN n = w1 at hc hk hr ⊢
  have HC := Lib.hid hc; have HK := Lib.hid hk; clear hc hk HF hH hI
  have HTr := Lib.hid hT; clear hT
  have hx : ∀ j, 48 ≤ dgx d nd j ∧ dgx d nd j ≤ 57 := fun j => dg_digit d (nd - 1 - j)
  have HX := Lib.hid hx; clear hx
  go_wp2_with fail
  go_loop [3] (fun t => ∃ k : Nat, k ≤ nd ∧ t = .int .i64 k ∧ Tr (cutF (dgx d nd)) k k0) (fun t => (intOf t).toNat)
  case atStart => exact ⟨nd, by omega, rfl, HTr.out⟩
  case round =>
    obtain ⟨k, hk, rfl, hT⟩ := hrel
    have HT := Lib.hid hT; clear hT
    by_cases hlt : 0 < k
    · obtain ⟨j, rfl⟩ : ∃ m, k = m + 1 := ⟨k - 1, by omega⟩
      have c := HC.out j (by omega)
      by_cases h48 : dgx d nd j = 48
      · have z48 : ((dgx d nd j : Nat) : Int) == 48 := by rw [h48]; rfl
        have hn : cutF (dgx d nd) (j + 1) = some j := by unfold cutF; rw [if_pos (by omega), Nat.add_sub_cancel, if_pos h48]
        have HN := Lib.hid hn; clear hn h48
        go_wp2_with fail
        exact ⟨⟨j, by omega, rfl, HT.out.next HN.out⟩, by simp [intOf]⟩
      · have z48 : (((dgx d nd j : Nat) : Int) == 48) = false := beq_eq_false_iff_ne.2 (by omega)
        have hn : cutF (dgx d nd) (j + 1) = none := by unfold cutF; rw [if_pos (by omega), Nat.add_sub_cancel, if_neg h48]
        have hke := HT.out.last hn
        clear hn h48
        subst hke
        go_wp2_with fail
        go_ret2
        exact ⟨⟨rfl, hr, fun i hi => ⟨(HX.out i).1, (HX.out i).2, HC.out i (by omega)⟩⟩, HK.out⟩
    · obtain rfl : k = 0 := by omega
      have hke := HT.out.last (by unfold cutF; rw [if_neg (by omega)])
      subst hke
      go_wp2_with fail
      go_ret2
      exact ⟨⟨rfl, hr, fun i hi => by omega⟩, HK.out⟩
end Go.Proofs.YtfkecmlmnhbmoaaGreatDoor
