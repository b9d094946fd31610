import Derived.Test.YtfkecmlmnhbmoaaGreatDoorFk05
import Derived.Test.YtfkecmlmnhbmoaaGreatDoorFk04
import Derived.Test.YtfkecmlmnhbmoaaGreatDoorFk06
namespace Go.Proofs.YtfkecmlmnhbmoaaGreatDoor
open Go.RowKit
/-- What the float's functions want of the program's tables, that lie below N. -/
structure Tabs (N : Nat) (w : World) : Prop where
  low : 25 < N
  opt : w.cell? ⟨10, 0, none⟩ = some (.bool true)
  tab : Lib.TabIs Tryz.prog w "internal/strconv.uint64pow10" .u64 Lib.pow10Tab
  ten : ∀ i, i < 1392 → ∃ x, U x ∧ w.cell? ⟨24, i, none⟩ = some (.int .u64 x)
  info0 : w.cell? ⟨18, 0, none⟩ = some (.int .u64 52)
  info1 : w.cell? ⟨18, 1, none⟩ = some (.int .u64 11)
  info2 : w.cell? ⟨18, 2, none⟩ = some (.int .i64 (-1023))
theorem pow10g : Tryz.prog.globalNamed "internal/strconv.uint64pow10" = some 2 := by kernel_rfl
theorem Tabs.pow {N : Nat} {w : World} (h : Tabs N w) (i : Nat) (hi : i < 20) : w.cell? ⟨2, i, none⟩ = some (.int .u64 (10 ^ i : Nat)) := by
  have := h.tab.cell pow10g i (by rw [Lib.pow10Tab_length]; exact hi)
  rwa [Lib.pow10Tab_at i hi] at this
theorem Tabs.kept {N : Nat} {w w' : World} {X : List Nat} (h : Tabs N w) (hk : Kept X w w') (hN : N ≤ w.heap.size) (hX : ∀ x ∈ X, N ≤ x) : Tabs N w' := by
  have hl := h.low
  have k : ∀ b o, b < N → w'.cell? ⟨b, o, none⟩ = w.cell? ⟨b, o, none⟩ := fun b o hb => hk.cell (by omega) (fun hm => by have := hX _ hm; omega)
  have hh : w'.heap[2]? = w.heap[2]? := hk.block 2 (by omega) (fun hm => by have := hX _ hm; omega)
  refine ⟨hl, (k _ _ (by omega)).trans h.opt, ?_, fun i hi => ?_, (k _ _ (by omega)).trans h.info0, (k _ _ (by omega)).trans h.info1, (k _ _ (by omega)).trans h.info2⟩
  · have := h.tab
    unfold Lib.TabIs World.var? at this ⊢
    rw [pow10g] at this ⊢
    simp only [Option.bind_some] at this ⊢
    rw [hh]
    exact this
  · obtain ⟨x, hx, hc⟩ := h.ten i hi
    exact ⟨x, hx, (k _ _ (by omega)).trans hc⟩
theorem and63 (s : Int) : 0 ≤ bits .and .i64 s 63 ∧ bits .and .i64 s 63 ≤ 63 := by
  have h : ∀ n : Nat, n ≤ 63 → IntKind.i64.wrap (n : Int) = n := by intro n hn; rw [IntKind.wrap_i64]; omega
  unfold bits
  have h2 : ((BitVec.ofInt IntKind.i64.bits s) &&& (BitVec.ofInt IntKind.i64.bits 63)).toNat ≤ 63 := by
    rw [BitVec.toNat_and]
    exact Nat.le_trans Nat.and_le_right (Nat.le_of_eq (by kernel_rfl))
  dsimp only
  rw [h _ h2]
  exact ⟨Int.natCast_nonneg _, Int.ofNat_le.2 h2⟩
theorem Kept.drewN {X : List Nat} {a w : World} (h : Kept X a w) : ∀ n, Kept X a (w.drewN n)
  | 0 => h
  | n + 1 => (h.drewN n).drew
end Go.Proofs.YtfkecmlmnhbmoaaGreatDoor
