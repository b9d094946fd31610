import Derived.Test.YtfkecmlmnhbmoaaGreatDoorDs08
namespace Go.Proofs.YtfkecmlmnhbmoaaGreatDoor
open Go.RowKit Go.Sort
/-- A number of the decimal kind, in the block B: the bytes x, nd of them in use, the point behind dp of them. -/
structure Dec (w : World) (B : Nat) (x : Nat → Nat) (nd : Nat) (dp : Int) (ng tr : Bool) : Prop where
  blk : ∃ cs, w.heap[B]? = some (.cells cs 248 (0, 0)) ∧ cs.size = 804
  dig : ∀ i, i < 800 → w.cell? ⟨B, i, none⟩ = some (.int .u8 (x i : Nat))
  n : w.cell? ⟨B, 800, none⟩ = some (.int .i64 nd)
  p : w.cell? ⟨B, 801, none⟩ = some (.int .i64 dp)
  g : w.cell? ⟨B, 802, none⟩ = some (.bool ng)
  t : w.cell? ⟨B, 803, none⟩ = some (.bool tr)
theorem Kept.set1 {B : Nat} {a w : World} (h : Kept [B] a w) (i : Nat) (u : Value) : Kept [B] a (w.setCell ⟨B, i, none⟩ u) := h.setCell (.inr (List.mem_singleton.2 rfl)) u
def upd (x : Nat → Nat) (i c : Nat) : Nat → Nat := fun j => if j = i then c else x j
theorem upd_at (x : Nat → Nat) (i c : Nat) : upd x i c i = c := if_pos rfl
theorem upd_ne (x : Nat → Nat) {i j : Nat} (c : Nat) (h : j ≠ i) : upd x i c j = x j := if_neg h
section
variable {w : World} {B : Nat} {x : Nat → Nat} {nd : Nat} {dp : Int} {ng tr : Bool}
theorem Dec.lt (h : Dec w B x nd dp ng tr) : B < w.heap.size := by obtain ⟨cs, hc, _⟩ := h.blk; exact lt_of_block hc
theorem Dec.free (h : Dec w B x nd dp ng tr) (o : Nat) : w.frozen? ⟨B, o, none⟩ = false := by obtain ⟨cs, hc, _⟩ := h.blk; simp [World.frozen?, hc]
theorem Dec.set_at (h : Dec w B x nd dp ng tr) (i : Nat) (u : Value) (hi : i < 804) : (w.setCell ⟨B, i, none⟩ u).cell? ⟨B, i, none⟩ = some u := by
  obtain ⟨cs, hc, hs⟩ := h.blk
  simp [World.cell?, block_set hc, hs, hi]
theorem Dec.set_blk (h : Dec w B x nd dp ng tr) (i : Nat) (u : Value) : ∃ cs, (w.setCell ⟨B, i, none⟩ u).heap[B]? = some (.cells cs 248 (0, 0)) ∧ cs.size = 804 := by
  obtain ⟨cs, hc, hs⟩ := h.blk
  exact ⟨_, block_set hc i u, by simpa using hs⟩
theorem Dec.setD (h : Dec w B x nd dp ng tr) {i : Nat} (hi : i < 800) (c : Nat) : Dec (w.setCell ⟨B, i, none⟩ (.int .u8 (c : Nat))) B (upd x i c) nd dp ng tr := by
  refine ⟨h.set_blk _ _, fun j hj => ?_, ?_, ?_, ?_, ?_⟩
  · by_cases e : i = j
    · subst e; rw [upd_at]; exact h.set_at _ _ (by omega)
    · rw [upd_ne _ _ (fun e2 => e e2.symm), cell_set_off _ _ _ _ _ e]; exact h.dig j hj
  · rw [cell_set_off _ _ _ _ _ (by omega)]; exact h.n
  · rw [cell_set_off _ _ _ _ _ (by omega)]; exact h.p
  · rw [cell_set_off _ _ _ _ _ (by omega)]; exact h.g
  · rw [cell_set_off _ _ _ _ _ (by omega)]; exact h.t
theorem Dec.setN (h : Dec w B x nd dp ng tr) (c : Nat) : Dec (w.setCell ⟨B, 800, none⟩ (.int .i64 (c : Nat))) B x c dp ng tr := by
  refine ⟨h.set_blk _ _, fun j hj => ?_, h.set_at _ _ (by omega), ?_, ?_, ?_⟩
  · rw [cell_set_off _ _ _ _ _ (by omega)]; exact h.dig j hj
  · rw [cell_set_off _ _ _ _ _ (by omega)]; exact h.p
  · rw [cell_set_off _ _ _ _ _ (by omega)]; exact h.g
  · rw [cell_set_off _ _ _ _ _ (by omega)]; exact h.t
theorem Dec.setP (h : Dec w B x nd dp ng tr) (c : Int) : Dec (w.setCell ⟨B, 801, none⟩ (.int .i64 c)) B x nd c ng tr := by
  refine ⟨h.set_blk _ _, fun j hj => ?_, ?_, h.set_at _ _ (by omega), ?_, ?_⟩
  · rw [cell_set_off _ _ _ _ _ (by omega)]; exact h.dig j hj
  · rw [cell_set_off _ _ _ _ _ (by omega)]; exact h.n
  · rw [cell_set_off _ _ _ _ _ (by omega)]; exact h.g
  · rw [cell_set_off _ _ _ _ _ (by omega)]; exact h.t
theorem Dec.setG (h : Dec w B x nd dp ng tr) (c : Bool) : Dec (w.setCell ⟨B, 802, none⟩ (.bool c)) B x nd dp c tr := by
  refine ⟨h.set_blk _ _, fun j hj => ?_, ?_, ?_, h.set_at _ _ (by omega), ?_⟩
  · rw [cell_set_off _ _ _ _ _ (by omega)]; exact h.dig j hj
  · rw [cell_set_off _ _ _ _ _ (by omega)]; exact h.n
  · rw [cell_set_off _ _ _ _ _ (by omega)]; exact h.p
  · rw [cell_set_off _ _ _ _ _ (by omega)]; exact h.t
theorem Dec.setT (h : Dec w B x nd dp ng tr) (c : Bool) : Dec (w.setCell ⟨B, 803, none⟩ (.bool c)) B x nd dp ng c := by
  refine ⟨h.set_blk _ _, fun j hj => ?_, ?_, ?_, ?_, h.set_at _ _ (by omega)⟩
  · rw [cell_set_off _ _ _ _ _ (by omega)]; exact h.dig j hj
  · rw [cell_set_off _ _ _ _ _ (by omega)]; exact h.n
  · rw [cell_set_off _ _ _ _ _ (by omega)]; exact h.p
  · rw [cell_set_off _ _ _ _ _ (by omega)]; exact h.g
theorem Dec.same {w' : World} (h : Dec w B x nd dp ng tr) (e : w'.heap[B]? = w.heap[B]?) : Dec w' B x nd dp ng tr := by
  have k : ∀ o, w'.cell? ⟨B, o, none⟩ = w.cell? ⟨B, o, none⟩ := fun o => World.cell?_of_block (w := w) e
  exact ⟨by rw [e]; exact h.blk, fun i hi => (k i).trans (h.dig i hi), (k _).trans h.n, (k _).trans h.p, (k _).trans h.g, (k _).trans h.t⟩
theorem Dec.drewN (h : Dec w B x nd dp ng tr) (n : Nat) : Dec (w.drewN n) B x nd dp ng tr := h.same (by rw [Tryz.drewN_heap])
theorem Dec.drew (h : Dec w B x nd dp ng tr) : Dec w.drew B x nd dp ng tr := h.same rfl
end
/-- The bytes in use are digits. -/
def Dg (x : Nat → Nat) (nd : Nat) : Prop := ∀ i, i < nd → 48 ≤ x i ∧ x i ≤ 57
theorem Dec.digs {w : World} {B : Nat} {x : Nat → Nat} {nd : Nat} {dp : Int} {ng tr : Bool} (h : Dec w B x nd dp ng tr) (hd : Dg x nd) (h8 : nd ≤ 800) : Digs w B nd := by
  obtain ⟨cs, hc, hs⟩ := h.blk
  exact ⟨⟨cs, 248, hc, by decide⟩, fun i hi => ⟨_, by have := hd i hi; omega, by have := hd i hi; omega, h.dig i (by omega)⟩⟩
set_option maxHeartbeats 1000000 in
theorem dtrim (B : Nat) (x : Nat → Nat) (nd : Nat) (dp : Int) (ng tr : Bool) (w : World) (hD : Dec w B x nd dp ng tr) (h8 : nd ≤ 800) :
    Calls Tryz.prog 205 #[.pointer (some ⟨B, 0, none⟩)] w fun en w' => en = .returned (.tuple #[]) ∧ Kept [B] w w' ∧
      ∃ nd' dp', Dec w' B x nd' dp' ng tr ∧ nd' ≤ nd ∧ (1 ≤ nd → x 0 ≠ 48 → 1 ≤ nd') ∧ (1 ≤ nd' → dp' = dp) ∧ (nd' = 0 → dp' = 0) := by
  go_enter Tryz.func205, Tryz.ntmps205
  go_wp2_with fail
  go_loopw [] (fun wr => ∃ k : Nat, k ≤ nd ∧ Kept [B] w wr ∧ Dec wr B x k dp ng tr ∧ (1 ≤ nd → x 0 ≠ 48 → 1 ≤ k)) (fun wr => (intOf ((wr.cell? ⟨B, 800, none⟩).getD default)).toNat)
  case atStart => exact ⟨nd, by omega, Kept.refl _ _, hD, fun h _ => h⟩
  case round =>
    obtain ⟨k, hk, hkp, hd, h1⟩ := hrel
    have hf := hd.free
    have cN := hd.n; have cP := hd.p
    by_cases hlt : 0 < k
    · obtain ⟨j, rfl⟩ : ∃ m, k = m + 1 := ⟨k - 1, by omega⟩
      have cD := hd.dig j (by omega)
      go_wp2_with fail
      go_quiet (fail)
      go_wp2_with fail
      · have e48 : (x j : Int) = 48 := by simpa using ‹((x j : Int) == 48) = true›
        refine ⟨⟨j, by omega, (hkp.drewN nq).setCell (.inr (List.mem_singleton.2 rfl)) _, (hd.drewN nq).setN j, fun h2 h3 => ?_⟩, ?_⟩
        · rcases Nat.eq_zero_or_pos j with rfl | h; exact absurd (by omega) h3; exact h
        · rw [((hd.drewN nq).setN j).n, cN]; simp [intOf]
      · go_end0
        exact ⟨rfl, hkp.drewN nq, j + 1, dp, hd.drewN nq, by omega, h1, fun _ => rfl, fun h => by omega⟩
    · obtain rfl : k = 0 := by omega
      go_wp2_with fail
      go_quiet (fail)
      go_wp2_with fail
      go_end0
      exact ⟨rfl, (hkp.drewN nq).setCell (.inr (List.mem_singleton.2 rfl)) _, 0, 0, (hd.drewN nq).setP 0, by omega, h1, fun h => by omega, fun _ => rfl⟩
end Go.Proofs.YtfkecmlmnhbmoaaGreatDoor
namespace Go.Proofs.YtfkecmlmnhbmoaaGreatDoor
open Go.RowKit Go.Sort
/-- How many halvings a number has not had yet, of f. -/
def mu : Nat → Nat → Nat
  | 0, _ => 0
  | f + 1, n => if n % 2 = 1 then f + 1 else mu f (n / 2)
theorem mu_le : ∀ (f i n : Nat), 2 ^ i ∣ n → mu f n ≤ f - i
  | 0, _, _, _ => Nat.zero_le _
  | f + 1, 0, n, _ => by
    unfold mu; split; exact Nat.le_refl _; have := mu_le f 0 (n / 2) (Nat.one_dvd _); omega
  | f + 1, i + 1, n, h => by
    obtain ⟨c, rfl⟩ := h
    have e : 2 ^ (i + 1) * c = 2 * (2 ^ i * c) := by rw [Nat.pow_succ]; simp [Nat.mul_comm, Nat.mul_left_comm]
    have := mu_le f i (2 ^ i * c) (Nat.dvd_mul_right _ _)
    rw [e]; unfold mu
    rw [if_neg (by omega), Nat.mul_div_cancel_left _ (by decide)]
    omega
theorem mu_eq : ∀ (f n : Nat), 0 < n → n < 2 ^ f → ∃ v, v < f ∧ 2 ^ v ∣ n ∧ mu f n = f - v
  | 0, n, h, h2 => by simp at h2; omega
  | f + 1, n, h, h2 => by
    by_cases ho : n % 2 = 1
    · exact ⟨0, by omega, Nat.one_dvd _, by unfold mu; rw [if_pos ho]; rfl⟩
    · obtain ⟨v, hv, ⟨c, hc⟩, hm⟩ := mu_eq f (n / 2) (by omega) (by rw [Nat.pow_succ] at h2; omega)
      refine ⟨v + 1, by omega, ⟨c, ?_⟩, ?_⟩
      · rw [Nat.pow_succ, Nat.mul_comm (2 ^ v) 2, Nat.mul_assoc, ← hc]; omega
      · unfold mu; rw [if_neg ho, hm]; omega
theorem mu_down (k n : Nat) (h : 0 < n) (h2 : n < 10 * 2 ^ k) : mu (k + 5) (n % 2 ^ k * 10) < mu (k + 5) n := by
  obtain ⟨v, hv, hd, hm⟩ := mu_eq (k + 5) n h (by rw [Nat.pow_add]; omega)
  have h3 : 2 ^ (v + 1) ∣ n % 2 ^ k * 10 := by
    by_cases hvk : v ≤ k
    · have h4 : 2 ^ v ∣ n % 2 ^ k := (Nat.dvd_mod_iff (Nat.pow_dvd_pow 2 hvk)).2 hd
      obtain ⟨c, hc⟩ := h4
      exact ⟨c * 5, by rw [hc, Nat.pow_succ, Nat.mul_assoc, Nat.mul_assoc, Nat.mul_left_comm 2]⟩
    · have h4 : n % 2 ^ k = 0 := Nat.mod_eq_zero_of_dvd (Nat.dvd_trans (Nat.pow_dvd_pow 2 (by omega)) hd)
      rw [h4, Nat.zero_mul]
      exact Nat.dvd_zero _
  have := mu_le (k + 5) (v + 1) _ h3
  omega
theorem Dg.snoc {y : Nat → Nat} {q c : Nat} (h : Dg y q) (h1 : 48 ≤ c) (h2 : c ≤ 57) : Dg (upd y q c) (q + 1) := fun i hi => by
  by_cases e : i = q
  · subst e; rw [upd_at]; exact ⟨h1, h2⟩
  · rw [upd_ne _ _ e]; exact h i (by omega)
set_option maxRecDepth 100000 in
set_option maxHeartbeats 4000000 in
theorem rshift (B : Nat) (x : Nat → Nat) (nd : Nat) (dp : Int) (ng tr : Bool) (k : Nat) (w : World) (hD : Dec w B x nd dp ng tr) (hd : Dg x nd) (h1 : 1 ≤ nd) (h8 : nd ≤ 800) (h0 : x 0 ≠ 48) (hk1 : 1 ≤ k) (hk2 : k ≤ 60)
    (hp1 : -1000000000 ≤ dp) (hp2 : dp ≤ 1000000000) :
    Calls Tryz.prog 207 #[.pointer (some ⟨B, 0, none⟩), .int .u64 k] w fun en w' => en = .returned (.tuple #[]) ∧ Kept [B] w w' ∧
      ∃ x' nd' dp' tr', Dec w' B x' nd' dp' ng tr' ∧ Dg x' nd' ∧ 1 ≤ nd' ∧ nd' ≤ 800 ∧ x' 0 ≠ 48 ∧ dp' ≤ dp ∧ dp - 900 ≤ dp' ∧ (dp' = dp → 2 ^ k ≤ x 0 - 48 ∧ x' 0 = 48 + (x 0 - 48) / 2 ^ k) := by
  have hf := hD.free
  have cN := hD.n; have cP := hD.p
  have hP : 2 ^ k ≤ 1152921504606846976 := by
    have : 2 ^ k ≤ 2 ^ 60 := Nat.pow_le_pow_right (by decide) hk2
    exact this
  have hP0 : 0 < 2 ^ k := Nat.two_pow_pos k
  have dlt : ∀ n : Nat, n < 2 ^ k → (n : Int) / 2 ^ k = 0 := fun n h => by
    have : ((n / 2 ^ k : Nat) : Int) = 0 := by rw [Nat.div_eq_of_lt h]; rfl
    simpa using this
  have dge : ∀ n : Nat, 2 ^ k ≤ n → ((n : Int) / 2 ^ k == 0) = false := fun n h => by
    have h1 : 1 ≤ n / 2 ^ k := (Nat.one_le_div_iff hP0).2 h
    have : ((n / 2 ^ k : Nat) : Int) ≠ 0 := by omega
    exact beq_eq_false_iff_ne.2 (by simpa using this)
  have Hlt := Lib.hid dlt; have Hge := Lib.hid dge; clear dlt dge
  go_enter Tryz.func207, Tryz.ntmps207
  go_wp2_with fail
  go_loop [4, 6] (fun vr vn => ∃ r n : Nat, vr = .int .i64 r ∧ vn = .int .u64 n ∧ ((r = 0 ∧ n = 0) ∨ (1 ≤ r ∧ r ≤ nd ∧ 1 ≤ n ∧ n < 10 * 2 ^ k ∧ (r = 1 → n = x 0 - 48)))) (fun vr _ => nd + 1 - (intOf vr).toNat)
  case atStart => exact ⟨0, 0, rfl, rfl, .inl ⟨rfl, rfl⟩⟩
  case round =>
    obtain ⟨r, n, rfl, rfl, hrn⟩ := hrel
    have hn10 : n < 10 * 2 ^ k := by omega
    by_cases hlt : n < 2 ^ k
    · have e0 := Hlt.out n hlt
      by_cases hr : r < nd
      · have cD := hD.dig r (by omega)
        have hx := hd r hr
        have hx0 := hd 0 (by omega)
        go_wp2_with fail
        refine ⟨⟨r + 1, n * 10 + (x r - 48), rfl, congrArg (Value.int .u64) (by omega), .inr ⟨by omega, by omega, ?_, by omega, ?_⟩⟩, by simp [intOf]; omega⟩
        · rcases hrn with ⟨rfl, rfl⟩ | h <;> omega
        · intro hr1; obtain rfl : r = 0 := by omega
          rcases hrn with ⟨_, rfl⟩ | h <;> omega
      · obtain rfl : nd = r := by omega
        have hn1 : 1 ≤ n := by omega
        have z0 : ((n : Int) == 0) = false := beq_eq_false_iff_ne.2 (by omega)
        clear hrn
        go_wp2_with fail
        clear e0 z0
        go_loop [4, 6] (fun vr vn => ∃ j m : Nat, vr = .int .i64 ((nd + j : Nat) : Int) ∧ vn = .int .u64 m ∧ 2 ^ j ≤ m ∧ m < 10 * 2 ^ k ∧ (j = 0 → m = n)) (fun _ vn => 10 * 2 ^ k - (intOf vn).toNat)
        case atStart => exact ⟨0, n, rfl, rfl, hn1, hn10, fun _ => rfl⟩
        case round =>
          obtain ⟨j, m, rfl, rfl, hj, hm10, hj0⟩ := hrel
          have hj64 : j < 64 := (Nat.pow_lt_pow_iff_right (show 1 < 2 by decide)).1 (Nat.lt_of_le_of_lt hj (show m < 2 ^ 64 by omega))
          by_cases hlt2 : m < 2 ^ k
          · have e0 := Hlt.out m hlt2
            have hm1 : 1 ≤ m := Nat.le_trans Nat.one_le_two_pow hj
            go_wp2_with fail
            refine ⟨⟨j + 1, m * 10, congrArg (Value.int .i64) (by omega), congrArg (Value.int .u64) (by omega), by rw [Nat.pow_succ]; omega, by omega, fun h => by omega⟩, by simp [intOf]; omega⟩
          · have e0 := Hge.out m (by omega)
            have hm1 : 2 ^ k ≤ m := by omega
            have hr1 : 1 ≤ nd + j := by omega
            have hr2 : nd + j ≤ nd + 64 := by omega
            have hr3 : nd + j = 1 → m = x 0 - 48 := fun h => by
              have := hj0 (by omega)
              omega
            clear hj hj0
            generalize nd + j = s at hr1 hr2 hr3 ⊢
            obtain ⟨M, hM⟩ : ∃ M : Nat, M = 2 ^ k - 1 := ⟨_, rfl⟩
            have hmk : IntKind.u64.wrap (IntKind.u64.wrap (2 ^ k) - 1) = (M : Int) := by
              have e1 : ((2 : Int) ^ k) = ((2 ^ k : Nat) : Int) := by simp
              rw [e1, IntKind.wrap_u64, IntKind.wrap_u64]; omega
            have hms : ∀ n : Nat, n < 18446744073709551616 → bits .and .u64 (n : Int) (M : Int) = ((n % 2 ^ k : Nat) : Int) := fun n hn => by
              have e1 : (M : Int) = 2 ^ k - 1 := by
                have : ((2 : Int) ^ k) = ((2 ^ k : Nat) : Int) := by simp
                rw [this]; omega
              rw [e1, bits_mask .u64 64 (by decide) (fun n h0 h1 => by rw [IntKind.wrap_u64]; omega) k (by omega) (n : Int) (by omega) (by omega)]
              simp
            have Hms := Lib.hid hms; clear hms hM
            go_wp2_with fail
            clear e0
            have D1 := hD.setP (dp - ((s : Int) - 1))
            have K1 : Kept [B] w (w.setCell ⟨B, 801, none⟩ (.int .i64 (dp - ((s : Int) - 1)))) := (Kept.refl _ _).set1 _ _
            generalize w.setCell ⟨B, 801, none⟩ (.int .i64 (dp - ((s : Int) - 1))) = w1 at D1 K1 ⊢
            have hdm : 1 ≤ m / 2 ^ k ∧ m / 2 ^ k ≤ 9 := ⟨(Nat.one_le_div_iff hP0).2 hm1, by have := (Nat.div_lt_iff_lt_mul hP0).2 hm10; omega⟩
            clear hf cN cP
            go_loopw [4, 5, 6] (fun vr vq vn wr => ∃ (r q n : Nat) (x' : Nat → Nat), vr = .int .i64 r ∧ vq = .int .i64 q ∧ vn = .int .u64 n ∧ Dec wr B x' nd (dp - ((s : Int) - 1)) ng tr ∧ Kept [B] w wr ∧ n < 10 * 2 ^ k ∧ q + s = r ∧ (r ≤ nd ∨ q = 0) ∧ (∀ i, r ≤ i → x' i = x i) ∧ Dg x' q ∧ (q = 0 → n = m) ∧ (1 ≤ q → x' 0 = 48 + m / 2 ^ k)) (fun vr _ _ _ => nd - (intOf vr).toNat)
            case atStart => exact ⟨s, 0, m, x, rfl, rfl, rfl, D1, K1, hm10, by omega, .inr rfl, fun _ _ => rfl, fun i hi => by omega, fun _ => rfl, fun h => by omega⟩
            case round =>
              obtain ⟨r, q, n, y, rfl, rfl, rfl, hDr, hKr, hn10, hqs, hor, hy, hdy, hq0, hq1⟩ := hrel
              have hf := hDr.free
              have cN := hDr.n
              by_cases hrn : r < nd
              · have cD := hDr.dig r (by omega)
                rw [hy r (Nat.le_refl _)] at cD
                have hx := hd r hrn
                have cQ := hDr.dig q (by omega)
                obtain ⟨dq, hdq, hdq2⟩ : ∃ dq : Nat, (n : Int) / 2 ^ k = (dq : Int) ∧ dq = n / 2 ^ k := ⟨n / 2 ^ k, by simp, rfl⟩
                have hdq9 : dq ≤ 9 := by have := (Nat.div_lt_iff_lt_mul hP0).2 hn10; omega
                have Hdq2 := Lib.hid hdq2; clear hdq2
                have hb := Hms.out n (by omega)
                have hmn2 : n % 2 ^ k < 2 ^ k := Nat.mod_lt _ hP0
                generalize n % 2 ^ k = mn at hb hmn2
                go_wp2_with fail
                have D2 : Dec (wr.setCell ⟨B, q, none⟩ (.int .u8 ((dq : Int) + 48))) B (upd y q (dq + 48)) nd (dp - ((s : Int) - 1)) ng tr := hDr.setD (by omega) (dq + 48)
                refine ⟨⟨r + 1, q + 1, mn * 10 + (x r - 48), upd y q (dq + 48), rfl, rfl, congrArg (Value.int .u64) (by omega), D2, hKr.set1 _ _, by omega, by omega, .inl (by omega), fun i hi => by rw [upd_ne _ _ (by omega)]; exact hy i (by omega), hdy.snoc (by omega) (by omega), fun h => by omega, fun _ => ?_⟩, by simp [intOf]; omega⟩
                rcases Nat.eq_zero_or_pos q with rfl | hq
                · rw [upd_at, Hdq2.out, hq0 rfl]; omega
                · rw [upd_ne _ _ (by omega)]; exact hq1 hq
              · go_wp2_with fail
                go_loopw [5, 6] (fun vq vn wz => ∃ (q n : Nat) (x' : Nat → Nat) (tr' : Bool), vq = .int .i64 q ∧ vn = .int .u64 n ∧ Dec wz B x' nd (dp - ((s : Int) - 1)) ng tr' ∧ Kept [B] w wz ∧ n < 10 * 2 ^ k ∧ q ≤ 800 ∧ Dg x' q ∧ (q = 0 → n = m) ∧ (1 ≤ q → x' 0 = 48 + m / 2 ^ k)) (fun _ vn _ => mu (k + 5) (intOf vn).toNat)
                case atStart => exact ⟨q, n, y, tr, rfl, rfl, hDr, hKr, hn10, by omega, hdy, hq0, hq1⟩
                case round =>
                  clear hDr hKr hn10 hqs hor hy hdy hq0 hq1 hf cN
                  obtain ⟨q, n, y, tr', rfl, rfl, hDr, hKr, hn10, hq8, hdy, hq0, hq1⟩ := hrel
                  have hf := hDr.free
                  by_cases hn0 : 0 < n
                  · have hdown := mu_down k n hn0 hn10
                    obtain ⟨dq, hdq, hdq2⟩ : ∃ dq : Nat, (n : Int) / 2 ^ k = (dq : Int) ∧ dq = n / 2 ^ k := ⟨n / 2 ^ k, by simp, rfl⟩
                    have hdq9 : dq ≤ 9 := by have := (Nat.div_lt_iff_lt_mul hP0).2 hn10; omega
                    have Hdq2 := Lib.hid hdq2; clear hdq2
                    have hb := Hms.out n (by omega)
                    have hmn2 : n % 2 ^ k < 2 ^ k := Nat.mod_lt _ hP0
                    generalize n % 2 ^ k = mn at hb hmn2 hdown
                    by_cases hq : q < 800
                    · have cQ := hDr.dig q (by omega)
                      go_wp2_with fail
                      have D2 : Dec (wr.setCell ⟨B, q, none⟩ (.int .u8 ((dq : Int) + 48))) B (upd y q (dq + 48)) nd (dp - ((s : Int) - 1)) ng tr' := hDr.setD (by omega) (dq + 48)
                      refine ⟨⟨q + 1, mn * 10, upd y q (dq + 48), tr', rfl, congrArg (Value.int .u64) (by omega), D2, hKr.set1 _ _, by omega, by omega, hdy.snoc (by omega) (by omega), fun h => by omega, fun _ => ?_⟩, ?_⟩
                      · rcases Nat.eq_zero_or_pos q with rfl | hq
                        · rw [upd_at, Hdq2.out, hq0 rfl]; omega
                        · rw [upd_ne _ _ (by omega)]; exact hq1 hq
                      · have e : (intOf (Value.int .u64 ((mn : Int) * 10))).toNat = mn * 10 := by simp [intOf]; omega
                        have e2 : (intOf (Value.int .u64 (n : Int))).toNat = n := by simp [intOf]
                        rw [e, e2]; exact hdown
                    · have cT := hDr.t
                      have e : (intOf (Value.int .u64 ((mn : Int) * 10))).toNat = mn * 10 := by simp [intOf]; omega
                      have e2 : (intOf (Value.int .u64 (n : Int))).toNat = n := by simp [intOf]
                      have E1 := Lib.hid e; have E2 := Lib.hid e2; clear e e2
                      go_wp2_with fail
                      · refine ⟨⟨q, mn * 10, y, true, rfl, congrArg (Value.int .u64) (by omega), hDr.setT true, hKr.set1 _ _, by omega, by omega, hdy, fun h => by omega, hq1⟩, ?_⟩
                        rw [E1.out, E2.out]; exact hdown
                      · refine ⟨⟨q, mn * 10, y, tr', rfl, congrArg (Value.int .u64) (by omega), hDr, hKr, by omega, by omega, hdy, fun h => by omega, hq1⟩, ?_⟩
                        rw [E1.out, E2.out]; exact hdown
                  · have cN := hDr.n
                    have hq1' : 1 ≤ q := by
                      rcases Nat.eq_zero_or_pos q with rfl | hq
                      · have := hq0 rfl; omega
                      · exact hq
                    go_wp2_with fail
                    refine (dtrim B y q _ ng tr' _ (hDr.setN q) hq8).mono ?_
                    rintro en w' ⟨rfl, hKt, nd', dp', hDt, hnd', hge, hdp', _⟩
                    have hy0 := hq1 hq1'
                    have hge1 := hge hq1' (by omega)
                    go_wp2_with fail
                    go_end0
                    have hdp := hdp' hge1
                    refine ⟨rfl, Kept.trans (hKr.set1 _ _) hKt (fun _ h => h) (fun _ h _ => h), y, nd', dp', tr', hDt, fun i hi => hdy i (by omega), hge1, by omega, by omega, by omega, by omega, fun h => ?_⟩
                    have hs1 : s = 1 := by omega
                    have hm := hr3 hs1
                    subst hm
                    exact ⟨hm1, by omega⟩
    · have e0 := Hge.out n (by omega)
      obtain ⟨hr1, hr2, hr3⟩ : 1 ≤ r ∧ r ≤ nd + 64 ∧ (r = 1 → n = x 0 - 48) := by
        rcases hrn with ⟨rfl, rfl⟩ | h; omega; exact ⟨h.1, by omega, h.2.2.2.2⟩
      have hm1 : 2 ^ k ≤ n := by omega
      clear hrn
      generalize r = s at hr1 hr2 hr3 ⊢
      generalize n = m at e0 hm1 hr3 hn10 ⊢
      have hm10 := hn10
      obtain ⟨M, hM⟩ : ∃ M : Nat, M = 2 ^ k - 1 := ⟨_, rfl⟩
      have hmk : IntKind.u64.wrap (IntKind.u64.wrap (2 ^ k) - 1) = (M : Int) := by
        have e1 : ((2 : Int) ^ k) = ((2 ^ k : Nat) : Int) := by simp
        rw [e1, IntKind.wrap_u64, IntKind.wrap_u64]; omega
      have hms : ∀ n : Nat, n < 18446744073709551616 → bits .and .u64 (n : Int) (M : Int) = ((n % 2 ^ k : Nat) : Int) := fun n hn => by
        have e1 : (M : Int) = 2 ^ k - 1 := by
          have : ((2 : Int) ^ k) = ((2 ^ k : Nat) : Int) := by simp
          rw [this]; omega
        rw [e1, bits_mask .u64 64 (by decide) (fun n h0 h1 => by rw [IntKind.wrap_u64]; omega) k (by omega) (n : Int) (by omega) (by omega)]
        simp
      have Hms := Lib.hid hms; clear hms hM
      go_wp2_with fail
      clear e0
      have D1 := hD.setP (dp - ((s : Int) - 1))
      have K1 : Kept [B] w (w.setCell ⟨B, 801, none⟩ (.int .i64 (dp - ((s : Int) - 1)))) := (Kept.refl _ _).set1 _ _
      generalize w.setCell ⟨B, 801, none⟩ (.int .i64 (dp - ((s : Int) - 1))) = w1 at D1 K1 ⊢
      have hdm : 1 ≤ m / 2 ^ k ∧ m / 2 ^ k ≤ 9 := ⟨(Nat.one_le_div_iff hP0).2 hm1, by have := (Nat.div_lt_iff_lt_mul hP0).2 hm10; omega⟩
      clear hf cN cP
      go_loopw [4, 5, 6] (fun vr vq vn wr => ∃ (r q n : Nat) (x' : Nat → Nat), vr = .int .i64 r ∧ vq = .int .i64 q ∧ vn = .int .u64 n ∧ Dec wr B x' nd (dp - ((s : Int) - 1)) ng tr ∧ Kept [B] w wr ∧ n < 10 * 2 ^ k ∧ q + s = r ∧ (r ≤ nd ∨ q = 0) ∧ (∀ i, r ≤ i → x' i = x i) ∧ Dg x' q ∧ (q = 0 → n = m) ∧ (1 ≤ q → x' 0 = 48 + m / 2 ^ k)) (fun vr _ _ _ => nd - (intOf vr).toNat)
      case atStart => exact ⟨s, 0, m, x, rfl, rfl, rfl, D1, K1, hm10, by omega, .inr rfl, fun _ _ => rfl, fun i hi => by omega, fun _ => rfl, fun h => by omega⟩
      case round =>
        obtain ⟨r, q, n, y, rfl, rfl, rfl, hDr, hKr, hn10, hqs, hor, hy, hdy, hq0, hq1⟩ := hrel
        have hf := hDr.free
        have cN := hDr.n
        by_cases hrn : r < nd
        · have cD := hDr.dig r (by omega)
          rw [hy r (Nat.le_refl _)] at cD
          have hx := hd r hrn
          have cQ := hDr.dig q (by omega)
          obtain ⟨dq, hdq, hdq2⟩ : ∃ dq : Nat, (n : Int) / 2 ^ k = (dq : Int) ∧ dq = n / 2 ^ k := ⟨n / 2 ^ k, by simp, rfl⟩
          have hdq9 : dq ≤ 9 := by have := (Nat.div_lt_iff_lt_mul hP0).2 hn10; omega
          have Hdq2 := Lib.hid hdq2; clear hdq2
          have hb := Hms.out n (by omega)
          have hmn2 : n % 2 ^ k < 2 ^ k := Nat.mod_lt _ hP0
          generalize n % 2 ^ k = mn at hb hmn2
          go_wp2_with fail
          have D2 : Dec (wr.setCell ⟨B, q, none⟩ (.int .u8 ((dq : Int) + 48))) B (upd y q (dq + 48)) nd (dp - ((s : Int) - 1)) ng tr := hDr.setD (by omega) (dq + 48)
          refine ⟨⟨r + 1, q + 1, mn * 10 + (x r - 48), upd y q (dq + 48), rfl, rfl, congrArg (Value.int .u64) (by omega), D2, hKr.set1 _ _, by omega, by omega, .inl (by omega), fun i hi => by rw [upd_ne _ _ (by omega)]; exact hy i (by omega), hdy.snoc (by omega) (by omega), fun h => by omega, fun _ => ?_⟩, by simp [intOf]; omega⟩
          rcases Nat.eq_zero_or_pos q with rfl | hq
          · rw [upd_at, Hdq2.out, hq0 rfl]; omega
          · rw [upd_ne _ _ (by omega)]; exact hq1 hq
        · go_wp2_with fail
          go_loopw [5, 6] (fun vq vn wz => ∃ (q n : Nat) (x' : Nat → Nat) (tr' : Bool), vq = .int .i64 q ∧ vn = .int .u64 n ∧ Dec wz B x' nd (dp - ((s : Int) - 1)) ng tr' ∧ Kept [B] w wz ∧ n < 10 * 2 ^ k ∧ q ≤ 800 ∧ Dg x' q ∧ (q = 0 → n = m) ∧ (1 ≤ q → x' 0 = 48 + m / 2 ^ k)) (fun _ vn _ => mu (k + 5) (intOf vn).toNat)
          case atStart => exact ⟨q, n, y, tr, rfl, rfl, hDr, hKr, hn10, by omega, hdy, hq0, hq1⟩
          case round =>
            clear hDr hKr hn10 hqs hor hy hdy hq0 hq1 hf cN
            obtain ⟨q, n, y, tr', rfl, rfl, hDr, hKr, hn10, hq8, hdy, hq0, hq1⟩ := hrel
            have hf := hDr.free
            by_cases hn0 : 0 < n
            · have hdown := mu_down k n hn0 hn10
              obtain ⟨dq, hdq, hdq2⟩ : ∃ dq : Nat, (n : Int) / 2 ^ k = (dq : Int) ∧ dq = n / 2 ^ k := ⟨n / 2 ^ k, by simp, rfl⟩
              have hdq9 : dq ≤ 9 := by have := (Nat.div_lt_iff_lt_mul hP0).2 hn10; omega
              have Hdq2 := Lib.hid hdq2; clear hdq2
              have hb := Hms.out n (by omega)
              have hmn2 : n % 2 ^ k < 2 ^ k := Nat.mod_lt _ hP0
              generalize n % 2 ^ k = mn at hb hmn2 hdown
              by_cases hq : q < 800
              · have cQ := hDr.dig q (by omega)
                go_wp2_with fail
                have D2 : Dec (wr.setCell ⟨B, q, none⟩ (.int .u8 ((dq : Int) + 48))) B (upd y q (dq + 48)) nd (dp - ((s : Int) - 1)) ng tr' := hDr.setD (by omega) (dq + 48)
                refine ⟨⟨q + 1, mn * 10, upd y q (dq + 48), tr', rfl, congrArg (Value.int .u64) (by omega), D2, hKr.set1 _ _, by omega, by omega, hdy.snoc (by omega) (by omega), fun h => by omega, fun _ => ?_⟩, ?_⟩
                · rcases Nat.eq_zero_or_pos q with rfl | hq
                  · rw [upd_at, Hdq2.out, hq0 rfl]; omega
                  · rw [upd_ne _ _ (by omega)]; exact hq1 hq
                · have e : (intOf (Value.int .u64 ((mn : Int) * 10))).toNat = mn * 10 := by simp [intOf]; omega
                  have e2 : (intOf (Value.int .u64 (n : Int))).toNat = n := by simp [intOf]
                  rw [e, e2]; exact hdown
              · have cT := hDr.t
                have e : (intOf (Value.int .u64 ((mn : Int) * 10))).toNat = mn * 10 := by simp [intOf]; omega
                have e2 : (intOf (Value.int .u64 (n : Int))).toNat = n := by simp [intOf]
                have E1 := Lib.hid e; have E2 := Lib.hid e2; clear e e2
                go_wp2_with fail
                · refine ⟨⟨q, mn * 10, y, true, rfl, congrArg (Value.int .u64) (by omega), hDr.setT true, hKr.set1 _ _, by omega, by omega, hdy, fun h => by omega, hq1⟩, ?_⟩
                  rw [E1.out, E2.out]; exact hdown
                · refine ⟨⟨q, mn * 10, y, tr', rfl, congrArg (Value.int .u64) (by omega), hDr, hKr, by omega, by omega, hdy, fun h => by omega, hq1⟩, ?_⟩
                  rw [E1.out, E2.out]; exact hdown
            · have cN := hDr.n
              have hq1' : 1 ≤ q := by
                rcases Nat.eq_zero_or_pos q with rfl | hq
                · have := hq0 rfl; omega
                · exact hq
              go_wp2_with fail
              refine (dtrim B y q _ ng tr' _ (hDr.setN q) hq8).mono ?_
              rintro en w' ⟨rfl, hKt, nd', dp', hDt, hnd', hge, hdp', _⟩
              have hy0 := hq1 hq1'
              have hge1 := hge hq1' (by omega)
              go_wp2_with fail
              go_end0
              have hdp := hdp' hge1
              refine ⟨rfl, Kept.trans (hKr.set1 _ _) hKt (fun _ h => h) (fun _ h _ => h), y, nd', dp', tr', hDt, fun i hi => hdy i (by omega), hge1, by omega, by omega, by omega, by omega, fun h => ?_⟩
              have hs1 : s = 1 := by omega
              have hm := hr3 hs1
              subst hm
              exact ⟨hm1, by omega⟩
end Go.Proofs.YtfkecmlmnhbmoaaGreatDoor
