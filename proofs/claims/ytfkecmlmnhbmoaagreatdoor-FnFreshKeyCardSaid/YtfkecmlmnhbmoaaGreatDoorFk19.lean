import Derived.Test.YtfkecmlmnhbmoaaGreatDoorFk09
import Derived.WalkMore
import Derived.Deep.LoopGhost
namespace Go.Proofs.YtfkecmlmnhbmoaaGreatDoor
open Go.RowKit
theorem ten18 {m q : Nat} (h : m < 10 ^ q) (hq : q ≤ 18) : m ≤ 999999999999999999 := by
  have : 10 ^ q ≤ 10 ^ 18 := Nat.pow_le_pow_right (by decide) hq
  have h2 : (10 : Nat) ^ 18 = 1000000000000000000 := by decide
  omega
theorem ten19 {m q : Nat} (h : m < 10 ^ q) (hq : q ≤ 19) : m < 10000000000000000000 := by
  have : 10 ^ q ≤ 10 ^ 19 := Nat.pow_le_pow_right (by decide) hq
  have h2 : (10 : Nat) ^ 19 = 10000000000000000000 := by decide
  omega
theorem ten_snoc {m q d : Nat} (h : m < 10 ^ q) (hd : d ≤ 9) : m * 10 + d < 10 ^ (q + 1) := by rw [Nat.pow_succ]; omega
theorem ten_snocI (c : Nat) (h1 : 48 ≤ c) (m : Nat) : (m : Int) * 10 + ((c : Int) - 48) = ((m * 10 + (c - 48) : Nat) : Int) := by omega
theorem dec_step {P i : Nat} (h : i ≠ P) : decide (P < i) = decide (P < i + 1) := by rw [decide_eq_decide]; omega
theorem NumS.any {s : ByteArray} {g L : Nat} (h : NumS s g L) (i : Nat) (hi : i < s.size) : 45 ≤ (s[i]'hi).toNat ∧ (s[i]'hi).toNat ≤ 57 := by
  have hsz := h.size
  have hg := h.g1
  by_cases h1 : i < g
  · obtain rfl : i = 0 := by omega
    have := h.sign hi (by omega); omega
  · by_cases h2 : i = g + L
    · subst h2; have := h.dot hi; omega
    · have := h.dig i hi (by omega) h2; omega
theorem NumS.dotAt {s : ByteArray} {g L : Nat} (h : NumS s g L) {i : Nat} (hi : i < s.size) (e : i = g + L) : (((s[i]'hi).toNat : Int) == 46) = true := by
  subst e
  rw [h.dot hi]; rfl
end Go.Proofs.YtfkecmlmnhbmoaaGreatDoor
