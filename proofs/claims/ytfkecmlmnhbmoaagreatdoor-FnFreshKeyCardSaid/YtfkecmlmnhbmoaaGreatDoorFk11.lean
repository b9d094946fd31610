import Derived.Test.YtfkecmlmnhbmoaaGreatDoorFk08
namespace Go.Proofs.YtfkecmlmnhbmoaaGreatDoor
open Go.RowKit Go.Sort
/-- A number of the decimal kind, in the block B: the bytes x, nd of them in use, the point behind dp of them. -/
structure Dec (w : World) (B : Nat) (x : Nat → Nat) (nd : Nat) (dp : Int) (ng tr : Bool) : Prop where
  blk : ∃ cs, w.heap[B]? = some (.cells cs 248 (0, 0)) ∧ cs.size = 804
  dig : ∀ i, i < 800 → w.cell? ⟨B, i, none⟩ = some (.int .u8 (x i : Nat))
  n : w.cell? ⟨B, 800, none⟩ = some (.int .i64 nd)
  p : w.cell? ⟨B, 801, none⟩ = some (.int .i64 dp)
  g : w.cell? ⟨B, 802, none⟩ = some (.bool ng)
  t : w.cell? ⟨B, 803, none⟩ = some (.bool tr)
theorem Kept.set1 {B : Nat} {a w : World} (h : Kept [B] a w) (i : Nat) (u : Value) : Kept [B] a (w.setCell ⟨B, i, none⟩ u) := h.setCell (.inr (List.mem_singleton.2 rfl)) u
def upd (x : Nat → Nat) (i c : Nat) : Nat → Nat := fun j => if j = i then c else x j
theorem upd_at (x : Nat → Nat) (i c : Nat) : upd x i c i = c := if_pos rfl
theorem upd_ne (x : Nat → Nat) {i j : Nat} (c : Nat) (h : j ≠ i) : upd x i c j = x j := if_neg h
section
variable {w : World} {B : Nat} {x : Nat → Nat} {nd : Nat} {dp : Int} {ng tr : Bool}
theorem Dec.lt (h : Dec w B x nd dp ng tr) : B < w.heap.size := by obtain ⟨cs, hc, _⟩ := h.blk; exact lt_of_block hc
theorem Dec.free (h : Dec w B x nd dp ng tr) (o : Nat) : w.frozen? ⟨B, o, none⟩ = false := by obtain ⟨cs, hc, _⟩ := h.blk; simp [World.frozen?, hc]
theorem Dec.set_at (h : Dec w B x nd dp ng tr) (i : Nat) (u : Value) (hi : i < 804) : (w.setCell ⟨B, i, none⟩ u).cell? ⟨B, i, none⟩ = some u := by
  obtain ⟨cs, hc, hs⟩ := h.blk
  simp [World.cell?, block_set hc, hs, hi]
theorem Dec.set_blk (h : Dec w B x nd dp ng tr) (i : Nat) (u : Value) : ∃ cs, (w.setCell ⟨B, i, none⟩ u).heap[B]? = some (.cells cs 248 (0, 0)) ∧ cs.size = 804 := by
  obtain ⟨cs, hc, hs⟩ := h.blk
  exact ⟨_, block_set hc i u, by simpa using hs⟩
theorem Dec.setD (h : Dec w B x nd dp ng tr) {i : Nat} (hi : i < 800) (c : Nat) : Dec (w.setCell ⟨B, i, none⟩ (.int .u8 (c : Nat))) B (upd x i c) nd dp ng tr := by
  refine ⟨h.set_blk _ _, fun j hj => ?_, ?_, ?_, ?_, ?_⟩
  · by_cases e : i = j
    · subst e; rw [upd_at]; exact h.set_at _ _ (by omega)
    · rw [upd_ne _ _ (fun e2 => e e2.symm), cell_set_off _ _ _ _ _ e]; exact h.dig j hj
  · rw [cell_set_off _ _ _ _ _ (by omega)]; exact h.n
  · rw [cell_set_off _ _ _ _ _ (by omega)]; exact h.p
  · rw [cell_set_off _ _ _ _ _ (by omega)]; exact h.g
  · rw [cell_set_off _ _ _ _ _ (by omega)]; exact h.t
theorem Dec.setN (h : Dec w B x nd dp ng tr) (c : Nat) : Dec (w.setCell ⟨B, 800, none⟩ (.int .i64 (c : Nat))) B x c dp ng tr := by
  refine ⟨h.set_blk _ _, fun j hj => ?_, h.set_at _ _ (by omega), ?_, ?_, ?_⟩
  · rw [cell_set_off _ _ _ _ _ (by omega)]; exact h.dig j hj
  · rw [cell_set_off _ _ _ _ _ (by omega)]; exact h.p
  · rw [cell_set_off _ _ _ _ _ (by omega)]; exact h.g
  · rw [cell_set_off _ _ _ _ _ (by omega)]; exact h.t
theorem Dec.setP (h : Dec w B x nd dp ng tr) (c : Int) : Dec (w.setCell ⟨B, 801, none⟩ (.int .i64 c)) B x nd c ng tr := by
  refine ⟨h.set_blk _ _, fun j hj => ?_, ?_, h.set_at _ _ (by omega), ?_, ?_⟩
  · rw [cell_set_off _ _ _ _ _ (by omega)]; exact h.dig j hj
  · rw [cell_set_off _ _ _ _ _ (by omega)]; exact h.n
  · rw [cell_set_off _ _ _ _ _ (by omega)]; exact h.g
  · rw [cell_set_off _ _ _ _ _ (by omega)]; exact h.t
theorem Dec.setG (h : Dec w B x nd dp ng tr) (c : Bool) : Dec (w.setCell ⟨B, 802, none⟩ (.bool c)) B x nd dp c tr := by
  refine ⟨h.set_blk _ _, fun j hj => ?_, ?_, ?_, h.set_at _ _ (by omega), ?_⟩
  · rw [cell_set_off _ _ _ _ _ (by omega)]; exact h.dig j hj
  · rw [cell_set_off _ _ _ _ _ (by omega)]; exact h.n
  · rw [cell_set_off _ _ _ _ _ (by omega)]; exact h.p
  · rw [cell_set_off _ _ _ _ _ (by omega)]; exact h.t
theorem Dec.setT (h : Dec w B x nd dp ng tr) (c : Bool) : Dec (w.setCell ⟨B, 803, none⟩ (.bool c)) B x nd dp ng c := by
  refine ⟨h.set_blk _ _, fun j hj => ?_, ?_, ?_, ?_, h.set_at _ _ (by omega)⟩
  · rw [cell_set_off _ _ _ _ _ (by omega)]; exact h.dig j hj
  · rw [cell_set_off _ _ _ _ _ (by omega)]; exact h.n
  · rw [cell_set_off _ _ _ _ _ (by omega)]; exact h.p
  · rw [cell_set_off _ _ _ _ _ (by omega)]; exact h.g
theorem Dec.same {w' : World} (h : Dec w B x nd dp ng tr) (e : w'.heap[B]? = w.heap[B]?) : Dec w' B x nd dp ng tr := by
  have k : ∀ o, w'.cell? ⟨B, o, none⟩ = w.cell? ⟨B, o, none⟩ := fun o => World.cell?_of_block (w := w) e
  exact ⟨by rw [e]; exact h.blk, fun i hi => (k i).trans (h.dig i hi), (k _).trans h.n, (k _).trans h.p, (k _).trans h.g, (k _).trans h.t⟩
theorem Dec.drewN (h : Dec w B x nd dp ng tr) (n : Nat) : Dec (w.drewN n) B x nd dp ng tr := h.same (by rw [Tryz.drewN_heap])
theorem Dec.drew (h : Dec w B x nd dp ng tr) : Dec w.drew B x nd dp ng tr := h.same rfl
end
/-- The bytes in use are digits. -/
def Dg (x : Nat → Nat) (nd : Nat) : Prop := ∀ i, i < nd → 48 ≤ x i ∧ x i ≤ 57
end Go.Proofs.YtfkecmlmnhbmoaaGreatDoor
namespace Go.Proofs.YtfkecmlmnhbmoaaGreatDoor
open Go.RowKit Go.Sort
/-- How many halvings a number has not had yet, of f. -/
def mu : Nat → Nat → Nat
  | 0, _ => 0
  | f + 1, n => if n % 2 = 1 then f + 1 else mu f (n / 2)
theorem mu_le : ∀ (f i n : Nat), 2 ^ i ∣ n → mu f n ≤ f - i
  | 0, _, _, _ => Nat.zero_le _
  | f + 1, 0, n, _ => by
    unfold mu; split; exact Nat.le_refl _; have := mu_le f 0 (n / 2) (Nat.one_dvd _); omega
  | f + 1, i + 1, n, h => by
    obtain ⟨c, rfl⟩ := h
    have e : 2 ^ (i + 1) * c = 2 * (2 ^ i * c) := by rw [Nat.pow_succ]; simp [Nat.mul_comm, Nat.mul_left_comm]
    have := mu_le f i (2 ^ i * c) (Nat.dvd_mul_right _ _)
    rw [e]; unfold mu
    rw [if_neg (by omega), Nat.mul_div_cancel_left _ (by decide)]
    omega
theorem mu_eq : ∀ (f n : Nat), 0 < n → n < 2 ^ f → ∃ v, v < f ∧ 2 ^ v ∣ n ∧ mu f n = f - v
  | 0, n, h, h2 => by simp at h2; omega
  | f + 1, n, h, h2 => by
    by_cases ho : n % 2 = 1
    · exact ⟨0, by omega, Nat.one_dvd _, by unfold mu; rw [if_pos ho]; rfl⟩
    · obtain ⟨v, hv, ⟨c, hc⟩, hm⟩ := mu_eq f (n / 2) (by omega) (by rw [Nat.pow_succ] at h2; omega)
      refine ⟨v + 1, by omega, ⟨c, ?_⟩, ?_⟩
      · rw [Nat.pow_succ, Nat.mul_comm (2 ^ v) 2, Nat.mul_assoc, ← hc]; omega
      · unfold mu; rw [if_neg ho, hm]; omega
theorem mu_down (k n : Nat) (h : 0 < n) (h2 : n < 10 * 2 ^ k) : mu (k + 5) (n % 2 ^ k * 10) < mu (k + 5) n := by
  obtain ⟨v, hv, hd, hm⟩ := mu_eq (k + 5) n h (by rw [Nat.pow_add]; omega)
  have h3 : 2 ^ (v + 1) ∣ n % 2 ^ k * 10 := by
    by_cases hvk : v ≤ k
    · have h4 : 2 ^ v ∣ n % 2 ^ k := (Nat.dvd_mod_iff (Nat.pow_dvd_pow 2 hvk)).2 hd
      obtain ⟨c, hc⟩ := h4
      exact ⟨c * 5, by rw [hc, Nat.pow_succ, Nat.mul_assoc, Nat.mul_assoc, Nat.mul_left_comm 2]⟩
    · have h4 : n % 2 ^ k = 0 := Nat.mod_eq_zero_of_dvd (Nat.dvd_trans (Nat.pow_dvd_pow 2 (by omega)) hd)
      rw [h4, Nat.zero_mul]
      exact Nat.dvd_zero _
  have := mu_le (k + 5) (v + 1) _ h3
  omega
theorem Dg.snoc {y : Nat → Nat} {q c : Nat} (h : Dg y q) (h1 : 48 ≤ c) (h2 : c ≤ 57) : Dg (upd y q c) (q + 1) := fun i hi => by
  by_cases e : i = q
  · subst e; rw [upd_at]; exact ⟨h1, h2⟩
  · rw [upd_ne _ _ e]; exact h i (by omega)
end Go.Proofs.YtfkecmlmnhbmoaaGreatDoor
