import Derived.Test.YtfkecmlmnhbmoaaGreatDoorFk12
namespace Go.Proofs.YtfkecmlmnhbmoaaGreatDoor
open Go.RowKit
/-- The table of what a shift adds. -/
def Cheat (N : Nat) (w : World) : Prop := ∃ b o cap, b < N ∧ w.cell? ⟨25, 0, none⟩ = some (.slice (some ⟨b, o, none⟩) 61 cap) ∧
  ∀ i, i < 61 → w.cell? ⟨b, o + i * 2, none⟩ = some (.int .i64 (dlt i : Nat)) ∧ w.cell? ⟨b, o + i * 2 + 1, none⟩ = some (.string ⟨(cut i).toArray⟩)
theorem cut_size (k : Nat) (hk : 1 ≤ k) : (⟨(cut k).toArray⟩ : ByteArray).size = Lib.nDigits (5 ^ k) := by
  show Array.size _ = _
  unfold cut; rw [if_neg (by omega)]
  simp [Lib.decDigits_length]
theorem cut_digit (k : Nat) (hk : 1 ≤ k) (i : Nat) (h : i < (⟨(cut k).toArray⟩ : ByteArray).size) : ((⟨(cut k).toArray⟩ : ByteArray)[i]'h).toNat = 48 + 5 ^ k / 10 ^ (Lib.nDigits (5 ^ k) - 1 - i) % 10 := by
  have h2 := h
  rw [cut_size k hk] at h2
  have e : ((⟨(cut k).toArray⟩ : ByteArray)[i]'h) = Lib.dg (5 ^ k) (Lib.nDigits (5 ^ k) - 1 - i) := by
    show (cut k).toArray[i]'_ = _
    simp only [cut, if_neg (show ¬ k = 0 by omega), List.getElem_toArray, Lib.decDigits_eq, List.getElem_map, List.getElem_range]
  rw [e]
  unfold Lib.dg
  rw [UInt8.toNat_ofNat']; omega
theorem five_last (k : Nat) (hk : 1 ≤ k) : 5 ^ k % 10 ≠ 0 := by
  obtain ⟨j, rfl⟩ : ∃ j, k = j + 1 := ⟨k - 1, by omega⟩
  have : 5 ^ j % 2 = 1 := by
    induction j with
    | zero => rfl
    | succ j ih => rw [Nat.pow_succ]; have := ih (by omega); omega
  rw [Nat.pow_succ]; omega
/-- What a shift adds, by the comparison. -/
theorem adds (D k n : Nat) (b : Bool) (hk : 1 ≤ k) (hk2 : k ≤ 60) (h1 : D < 10 ^ (n + 1)) (h2 : 10 ^ n ≤ D)
    (ht : b = true → D * 10 ^ Lib.nDigits (5 ^ k) < 5 ^ k * 10 ^ (n + 1)) (hf : b = false → 5 ^ k * 10 ^ (n + 1) ≤ D * 10 ^ Lib.nDigits (5 ^ k)) :
    ∃ a : Nat, ((dlt k : Nat) : Int) - (if b then 1 else 0) = (a : Int) ∧ a ≤ 19 ∧ 10 ^ (n + a) ≤ D * 2 ^ k ∧ D * 2 ^ k < 10 ^ (n + 1 + a) := by
  obtain h | ⟨g1, g2, g3, g4, g5⟩ := dlt_fin ⟨k, by omega⟩
  · dsimp only at h; omega
  dsimp only at g1 g2 g3 g4 g5
  have hdl : dlt k = Lib.nDigits (2 ^ k) := if_neg (by omega)
  rw [hdl]
  generalize Lib.nDigits (2 ^ k) = d at g1 g2 g3 g4 g5
  have hc := Lib.nDigits_pos (5 ^ k)
  generalize Lib.nDigits (5 ^ k) = c at g1 ht hf hc
  have e10 : 5 ^ k * 2 ^ k = 10 ^ k := by rw [← Nat.mul_pow]
  have p2 : 0 < 2 ^ k := Nat.two_pow_pos k
  cases b
  · refine ⟨d, by simp, g3, ?_, ?_⟩
    · have h3 := Nat.mul_le_mul_right (2 ^ k) (hf rfl)
      rw [Nat.mul_right_comm, e10, Nat.mul_right_comm, ← Nat.pow_add, show k + (n + 1) = (n + d) + c by omega, Nat.pow_add] at h3
      exact Nat.le_of_mul_le_mul_right h3 (p10 c)
    · rw [Nat.pow_add]
      exact Nat.lt_of_lt_of_le (Nat.mul_lt_mul_of_pos_right h1 p2) (Nat.mul_le_mul_left _ (Nat.le_of_lt g4))
  · refine ⟨d - 1, by simp; omega, by omega, ?_, ?_⟩
    · rw [Nat.pow_add]
      exact Nat.mul_le_mul h2 g5
    · have h3 := Nat.mul_lt_mul_of_pos_right (ht rfl) p2
      rw [Nat.mul_right_comm, Nat.mul_right_comm (5 ^ k), e10, ← Nat.pow_add, show k + (n + 1) = (n + 1 + (d - 1)) + c by omega, Nat.pow_add] at h3
      exact Nat.lt_of_mul_lt_mul_right h3
end Go.Proofs.YtfkecmlmnhbmoaaGreatDoor
