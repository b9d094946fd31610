import Derived.Test.YtfkecmlmnhbmoaaGreatDoorFk10
import Derived.Test.YtfkecmlmnhbmoaaGreatDoorFk16
import Derived.Laws.BytesArg
import Derived.Laws.MakeOwn
import Derived.Test.YtfkecmlmnhbmoaaGreatDoorFk19
import Derived.RegionTactic
namespace Go.Proofs.YtfkecmlmnhbmoaaGreatDoor
open Go.RowKit
theorem upd_first {x : Nat → Nat} {nd c : Nat} (h : 1 ≤ nd → x 0 ≠ 48) (hc : nd = 0 → c ≠ 48) : 1 ≤ nd + 1 → upd x nd c 0 ≠ 48 := fun _ => by
  by_cases h0 : nd = 0
  · subst h0; rw [upd_at]; exact hc rfl
  · rw [upd_ne _ _ (by omega)]; exact h (by omega)
end Go.Proofs.YtfkecmlmnhbmoaaGreatDoor
namespace Go.Proofs.YtfkecmlmnhbmoaaGreatDoor
open Go.RowKit
/-- The table powtab. -/
structure PowT (N : Nat) (w : World) : Prop where
  low : 25 < N
  tp : ∃ b o, b < N ∧ w.cell? ⟨22, 0, none⟩ = some (.slice (some ⟨b, o, none⟩) 9 9) ∧ ∀ i, i < 9 → ∃ v : Nat, 1 ≤ v ∧ v ≤ 26 ∧ (i = 1 → v = 3) ∧ (2 ≤ i → 6 ≤ v) ∧ w.cell? ⟨b, o + i, none⟩ = some (.int .i64 v)
theorem PowT.kept {N : Nat} {w w' : World} {X : List Nat} (h : PowT N w) (hk : Kept X w w') (hN : N ≤ w.heap.size) (hX : ∀ x ∈ X, N ≤ x) : PowT N w' := by
  have hl := h.low
  have k : ∀ b o, b < N → w'.cell? ⟨b, o, none⟩ = w.cell? ⟨b, o, none⟩ := fun b o hb => hk.cell (by omega) (fun hm => by have := hX _ hm; omega)
  obtain ⟨b, o, hb, h1, h2⟩ := h.tp
  exact ⟨hl, b, o, hb, (k _ _ (by omega)).trans h1, fun i hi => by obtain ⟨v, h3, h4, h5, h6, hr⟩ := h2 i hi; exact ⟨v, h3, h4, h5, h6, (k _ _ hb).trans hr⟩⟩
theorem Cheat.kept {N : Nat} {w w' : World} {X : List Nat} (h : Cheat N w) (hk : Kept X w w') (hN : N ≤ w.heap.size) (hX : ∀ x ∈ X, N ≤ x) (hlow : 25 < N) : Cheat N w' := by
  have k : ∀ b o, b < N → w'.cell? ⟨b, o, none⟩ = w.cell? ⟨b, o, none⟩ := fun b o hb => hk.cell (by omega) (fun hm => by have := hX _ hm; omega)
  obtain ⟨b, o, cap, hb, h1, h2⟩ := h
  exact ⟨b, o, cap, hb, (k _ _ (by omega)).trans h1, fun i hi => ⟨(k _ _ hb).trans (h2 i hi).1, (k _ _ hb).trans (h2 i hi).2⟩⟩
def InvA (ex p : Int) (y : Nat) : Prop := 0 ≤ ex ∧ (2 ≤ p → ex + 27 * p ≤ 999) ∧ (p = 1 → 56 ≤ y → ex ≤ 972) ∧ (p = 1 → ex ≤ 975) ∧ ex ≤ 1002 ∧ -900 ≤ p ∧ p ≤ 37
theorem stepA {ex p p' : Int} {y y' v : Nat} (h : InvA ex p y) (hp : 1 ≤ p) (hv1 : 1 ≤ v) (hv2 : v ≤ 27) (h1 : p = 1 → v = 3) (h2 : 2 ≤ p → 6 ≤ v) (hy1 : 49 ≤ y) (hy2 : y ≤ 57) (hy' : y' ≤ 57) (hp' : p' ≤ p) (hlo : p - 900 ≤ p')
    (he : p' = p → 2 ^ v ≤ y - 48 ∧ y' = 48 + (y - 48) / 2 ^ v) : InvA (ex + v) p' y' ∧ 10 * p'.toNat + y' < 10 * p.toNat + y := by
  obtain ⟨a1, a2, a3, a4, a5, a6, a7⟩ := h
  by_cases e : p' = p
  · obtain ⟨e1, e2⟩ := he e
    subst e
    by_cases hq : p' = 1
    · obtain rfl := h1 hq
      rw [show (2 : Nat) ^ 3 = 8 from rfl] at e1 e2
      have := a3 hq (by omega)
      refine ⟨⟨by omega, by omega, by omega, by omega, by omega, by omega, by omega⟩, by omega⟩
    · have h6 := h2 (by omega)
      have : 2 ^ 6 ≤ 2 ^ v := Nat.pow_le_pow_right (by decide) h6
      rw [show (2 : Nat) ^ 6 = 64 from rfl] at this
      omega
  · clear he
    by_cases hq : p = 1
    · have := h1 hq; have := a4 hq
      refine ⟨⟨by omega, by omega, by omega, by omega, by omega, by omega, by omega⟩, by omega⟩
    · have := a2 (by omega)
      refine ⟨⟨by omega, by omega, by omega, by omega, by omega, by omega, by omega⟩, by omega⟩
def InvB (ex p : Int) (y : Nat) : Prop := (p ≤ 0 → 27 * (10 * -p + 57 - y) - 243270 ≤ ex) ∧ -243270 ≤ ex ∧ ex ≤ 1002 ∧ -900 ≤ p ∧ p ≤ 37
theorem stepAB {ex p : Int} {y : Nat} (h : InvA ex p y) (hp : p ≤ 0) (hy1 : 49 ≤ y) : InvB ex p y := by
  obtain ⟨a1, a2, a3, a4, a5, a6, a7⟩ := h
  exact ⟨fun _ => by omega, by omega, by omega, by omega, by omega⟩
theorem stepB {ex p : Int} {y y' v a : Nat} (h : InvB ex p y) (hg : p < 0 ∨ (p = 0 ∧ y < 53)) (hv1 : 1 ≤ v) (hv2 : v ≤ 27) (hy1 : 49 ≤ y) (hy2 : y ≤ 57) (hy1' : 49 ≤ y') (hy2' : y' ≤ 57) (ha : a ≤ 19) (h0 : a = 0 → 48 + (y - 48) * 2 ^ v ≤ y') :
    InvB (ex - v) (p + a) y' ∧ (1 - (p + a)).toNat * 10 + (57 - y') < (1 - p).toNat * 10 + (57 - y) := by
  obtain ⟨b1, b2, b3, b4, b5⟩ := h
  have b6 := b1 (by omega)
  clear b1
  by_cases ha0 : a = 0
  · have h3 := h0 ha0
    have h4 : 2 ^ 1 ≤ 2 ^ v := Nat.pow_le_pow_right (by decide) hv1
    have h5 : (y - 48) * 2 ≤ (y - 48) * 2 ^ v := Nat.mul_le_mul_left _ h4
    generalize (y - 48) * 2 ^ v = z at h3 h5
    clear h0 h4
    subst ha0
    refine ⟨⟨fun _ => by omega, by omega, by omega, by omega, by omega⟩, by omega⟩
  · clear h0
    refine ⟨⟨fun _ => by omega, by omega, by omega, by omega, by omega⟩, by omega⟩
end Go.Proofs.YtfkecmlmnhbmoaaGreatDoor
