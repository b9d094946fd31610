import Derived.Test.YtfkecmlmnhbmoaaGreatDoorFk36
import Derived.Test.YtfkecmlmnhbmoaaGreatDoorFk12
import Derived.Test.YtfkecmlmnhbmoaaGreatDoorFk13
namespace Go.Proofs.YtfkecmlmnhbmoaaGreatDoor
open Go.RowKit Go.Sort
theorem cutF_go {x : Nat → Nat} {j : Nat} (h : x j = 48) : cutF x (j + 1) = some j := by unfold cutF; rw [if_pos (by omega), Nat.add_sub_cancel, if_pos h]
theorem cutF_no {x : Nat → Nat} {j : Nat} (h : x j ≠ 48) : cutF x (j + 1) = none := by unfold cutF; rw [if_pos (by omega), Nat.add_sub_cancel, if_neg h]
theorem cutF_z {x : Nat → Nat} : cutF x 0 = none := by unfold cutF; rw [if_neg (by omega)]
theorem cut_ends (x : Nat → Nat) (nd : Nat) : ∃ k, Tr (cutF x) nd k ∧ k ≤ nd ∧ (1 ≤ nd → x 0 ≠ 48 → 1 ≤ k) := by
  obtain ⟨k, hT, ⟨h1, h2⟩, _⟩ := Tr.ends (f := cutF x) (fun k => k) (fun k => k ≤ nd ∧ (1 ≤ nd → x 0 ≠ 48 → 1 ≤ k)) (fun s t hs e => by
    unfold cutF at e
    split at e
    · split at e
      · rename_i h0 h48
        cases e
        refine ⟨⟨by omega, fun h1 h2 => ?_⟩, by omega⟩
        rcases Nat.eq_zero_or_pos (s - 1) with h | h
        · rw [h] at h48; exact absurd h48 h2
        · exact h
      · cases e
    · cases e) nd nd (Nat.le_refl _) ⟨Nat.le_refl _, fun h _ => h⟩
  exact ⟨k, hT, h1, h2⟩
def zdp (k : Nat) (dp : Int) : Int := if k = 0 then 0 else dp
theorem zdp_pos {k : Nat} {dp : Int} (h : 1 ≤ k) : zdp k dp = dp := if_neg (by omega)
theorem zdp_zero {dp : Int} : zdp 0 dp = 0 := if_pos rfl
set_option maxHeartbeats 1000000 in
theorem dtrimF (x : Nat → Nat) (nd : Nat) (dp : Int) (ng tr : Bool) (h8 : nd ≤ 800) : ∃ nd' : Nat, (nd' ≤ nd ∧ (1 ≤ nd → x 0 ≠ 48 → 1 ≤ nd')) ∧ ∀ (B : Nat) (w : World), Dec w B x nd dp ng tr →
    Calls Tryz.prog 205 #[.pointer (some ⟨B, 0, none⟩)] w fun en w' => en = .returned (.tuple #[]) ∧ Kept [B] w w' ∧ Dec w' B x nd' (zdp nd' dp) ng tr := by
  obtain ⟨k0, hT, hk1, hk2⟩ := cut_ends x nd
  refine ⟨k0, ⟨hk1, hk2⟩, fun B w hD => ?_⟩
  have HTr := Lib.hid hT; clear hT
  go_enter Tryz.func205, Tryz.ntmps205
  go_wp2_with fail
  go_loopw [] (fun wr => ∃ k : Nat, k ≤ nd ∧ Kept [B] w wr ∧ Dec wr B x k dp ng tr ∧ Tr (cutF x) k k0) (fun wr => (intOf ((wr.cell? ⟨B, 800, none⟩).getD default)).toNat)
  case atStart => exact ⟨nd, by omega, Kept.refl _ _, hD, HTr.out⟩
  case round =>
    obtain ⟨k, hk, hkp, hd, hT⟩ := hrel
    have HT := Lib.hid hT; clear hT
    have hf := hd.free
    have cN := hd.n; have cP := hd.p
    by_cases hlt : 0 < k
    · obtain ⟨j, rfl⟩ : ∃ m, k = m + 1 := ⟨k - 1, by omega⟩
      have cD := hd.dig j (by omega)
      by_cases h48 : x j = 48
      · have hn := HT.out.next (cutF_go h48)
        have z48 : ((x j : Int) == 48) = true := by rw [h48]; rfl
        have HN := Lib.hid hn; clear hn h48
        go_wp2_with fail
        go_quiet (fail)
        go_wp2_with fail
        refine ⟨⟨j, by omega, (hkp.drewN nq).setCell (.inr (List.mem_singleton.2 rfl)) _, (hd.drewN nq).setN j, HN.out⟩, ?_⟩
        rw [((hd.drewN nq).setN j).n, cN]; simp [intOf]
      · have hke := HT.out.last (cutF_no h48)
        have z48 : ((x j : Int) == 48) = false := beq_eq_false_iff_ne.2 (by omega)
        clear h48
        subst hke
        go_wp2_with fail
        go_quiet (fail)
        go_wp2_with fail
        go_end0
        exact ⟨rfl, hkp.drewN nq, by rw [zdp_pos (by omega)]; exact hd.drewN nq⟩
    · obtain rfl : k = 0 := by omega
      have hke := HT.out.last cutF_z
      subst hke
      go_wp2_with fail
      go_quiet (fail)
      go_wp2_with fail
      go_end0
      exact ⟨rfl, (hkp.drewN nq).setCell (.inr (List.mem_singleton.2 rfl)) _, by rw [zdp_zero]; exact (hd.drewN nq).setP 0⟩
end Go.Proofs.YtfkecmlmnhbmoaaGreatDoor
namespace Go.Proofs.YtfkecmlmnhbmoaaGreatDoor
open Go.RowKit Go.Sort
def r1F (x : Nat → Nat) (nd P : Nat) (s : Nat × Nat) : Option (Nat × Nat) := if s.2 < P then (if s.1 < nd then some (s.1 + 1, s.2 * 10 + (x s.1 - 48)) else none) else none
def r2F (P : Nat) (s : Nat × Nat) : Option (Nat × Nat) := if s.2 < P then some (s.1 + 1, s.2 * 10) else none
def r3F (x : Nat → Nat) (nd P : Nat) (s : Nat × Nat × Nat × (Nat → Nat)) : Option (Nat × Nat × Nat × (Nat → Nat)) := if s.1 < nd then some (s.1 + 1, s.2.1 + 1, s.2.2.1 % P * 10 + (x s.1 - 48), upd s.2.2.2 s.2.1 (s.2.2.1 / P + 48)) else none
def r4F (P : Nat) (s : Nat × Nat × (Nat → Nat) × Bool) : Option (Nat × Nat × (Nat → Nat) × Bool) :=
  if 0 < s.2.1 then (if s.1 < 800 then some (s.1 + 1, s.2.1 % P * 10, upd s.2.2.1 s.1 (s.2.1 / P + 48), s.2.2.2) else some (s.1, s.2.1 % P * 10, s.2.2.1, s.2.2.2 || decide (0 < s.2.1 / P))) else none
structure I1 (x : Nat → Nat) (nd P : Nat) (s : Nat × Nat) : Prop where
  h : (s.1 = 0 ∧ s.2 = 0) ∨ (1 ≤ s.1 ∧ s.1 ≤ nd ∧ 1 ≤ s.2 ∧ s.2 < 10 * P ∧ (s.1 = 1 → s.2 = x 0 - 48))
theorem I1.go {x : Nat → Nat} {nd P : Nat} (hd : Dg x nd) (h1 : 1 ≤ nd) (h0 : x 0 ≠ 48) (_hP : 1 ≤ P) {s t : Nat × Nat} (h : I1 x nd P s) (e : r1F x nd P s = some t) : I1 x nd P t ∧ nd + 1 - t.1 < nd + 1 - s.1 := by
  unfold r1F at e
  split at e
  · split at e
    · rename_i h2 h3
      cases e
      have hx := hd s.1 h3
      have hx0 := hd 0 (by omega)
      refine ⟨⟨.inr ⟨by omega, by dsimp only; omega, ?_, by dsimp only; omega, ?_⟩⟩, by dsimp only; omega⟩
      · dsimp only
        rcases h.h with ⟨a, b⟩ | h
        · rw [a]; omega
        · omega
      · intro hr
        have a : s.1 = 0 := by dsimp only at hr; omega
        rcases h.h with ⟨_, b⟩ | h
        · dsimp only; rw [a, b]; omega
        · omega
    · cases e
  · cases e
structure I2 (nd n P : Nat) (s : Nat × Nat) : Prop where
  h : ∃ j, s.1 = nd + j ∧ 2 ^ j ≤ s.2 ∧ s.2 < 10 * P ∧ (j = 0 → s.2 = n)
theorem I2.go {nd n P : Nat} {s t : Nat × Nat} (h : I2 nd n P s) (e : r2F P s = some t) : I2 nd n P t ∧ 10 * P - t.2 < 10 * P - s.2 := by
  obtain ⟨j, h1, h2, h3, h4⟩ := h
  have := Nat.one_le_two_pow (n := j)
  unfold r2F at e
  split at e
  · cases e
    exact ⟨⟨j + 1, by dsimp only; omega, by dsimp only; rw [Nat.pow_succ]; omega, by dsimp only; omega, by omega⟩, by dsimp only; omega⟩
  · cases e
structure I3 (x : Nat → Nat) (nd P s0 m : Nat) (s : Nat × Nat × Nat × (Nat → Nat)) : Prop where
  n10 : s.2.2.1 < 10 * P
  qs : s.2.1 + s0 = s.1
  or : s.1 ≤ nd ∨ s.2.1 = 0
  y : ∀ i, s.1 ≤ i → s.2.2.2 i = x i
  dg : Dg s.2.2.2 s.2.1
  q0 : s.2.1 = 0 → s.2.2.1 = m
  q1 : 1 ≤ s.2.1 → s.2.2.2 0 = 48 + m / P
theorem q9 {n P : Nat} (hP : 1 ≤ P) (h : n < 10 * P) : n / P ≤ 9 := by have := (Nat.div_lt_iff_lt_mul hP).2 h; omega
theorem I3.go {x : Nat → Nat} {nd P s0 m : Nat} (hd : Dg x nd) (hP : 1 ≤ P) (h1 : 1 ≤ s0) {s t : Nat × Nat × Nat × (Nat → Nat)} (h : I3 x nd P s0 m s) (e : r3F x nd P s = some t) : I3 x nd P s0 m t ∧ nd - t.1 < nd - s.1 := by
  obtain ⟨a1, a2, a3, a4, a5, a6, a7⟩ := h
  unfold r3F at e
  split at e
  · rename_i h2
    cases e
    have hx := hd s.1 h2
    have h9 := q9 hP a1
    have hm := Nat.mod_lt s.2.2.1 (show 0 < P by omega)
    refine ⟨⟨by dsimp only; omega, by dsimp only; omega, by dsimp only; omega, fun i hi => ?_, a5.snoc (Nat.le_add_left _ _) (Nat.add_le_add_right h9 48), fun h => by dsimp only at h; omega, fun _ => ?_⟩, by dsimp only; omega⟩
    · dsimp only at hi ⊢
      rw [upd_ne _ _ (by omega)]
      exact a4 i (by omega)
    · dsimp only
      rcases Nat.eq_zero_or_pos s.2.1 with hq | hq
      · rw [hq, upd_at, a6 hq]; omega
      · rw [upd_ne _ _ (by omega)]; exact a7 hq
  · cases e
structure I4 (P m : Nat) (s : Nat × Nat × (Nat → Nat) × Bool) : Prop where
  n10 : s.2.1 < 10 * P
  q8 : s.1 ≤ 800
  dg : Dg s.2.2.1 s.1
  q0 : s.1 = 0 → s.2.1 = m
  q1 : 1 ≤ s.1 → s.2.2.1 0 = 48 + m / P
theorem I4.go {k m : Nat} {s t : Nat × Nat × (Nat → Nat) × Bool} (h : I4 (2 ^ k) m s) (e : r4F (2 ^ k) s = some t) : I4 (2 ^ k) m t ∧ mu (k + 5) t.2.1 < mu (k + 5) s.2.1 := by
  obtain ⟨a1, a2, a3, a4, a5⟩ := h
  have hP := Nat.two_pow_pos k
  unfold r4F at e
  split at e
  · rename_i h2
    have hdn := mu_down k s.2.1 h2 a1
    have h9 := q9 hP a1
    have hm := Nat.mod_lt s.2.1 hP
    split at e
    · cases e
      refine ⟨⟨by dsimp only; omega, by dsimp only; omega, a3.snoc (Nat.le_add_left _ _) (Nat.add_le_add_right h9 48), fun h => by dsimp only at h; omega, fun _ => ?_⟩, hdn⟩
      dsimp only
      rcases Nat.eq_zero_or_pos s.1 with hq | hq
      · rw [hq, upd_at, a4 hq]; omega
      · rw [upd_ne _ _ (by omega)]; exact a5 hq
    · cases e
      exact ⟨⟨by dsimp only; omega, a2, a3, fun h => by dsimp only at h; omega, a5⟩, hdn⟩
  · cases e
/-- What a shift to the right comes to, so far as its first loops go. -/
theorem r12_ends (x : Nat → Nat) (nd k : Nat) (hd : Dg x nd) (h1 : 1 ≤ nd) (h0 : x 0 ≠ 48) (hk2 : k ≤ 60) : ∃ t1 : Nat × Nat, Tr (r1F x nd (2 ^ k)) (0, 0) t1 ∧ ∃ s m : Nat, ((2 ^ k ≤ t1.2 ∧ t1 = (s, m)) ∨ (t1.2 < 2 ^ k ∧ t1.1 = nd ∧ 1 ≤ t1.2 ∧ Tr (r2F (2 ^ k)) t1 (s, m))) ∧ 1 ≤ s ∧ s ≤ nd + 64 ∧ (s = 1 → m = x 0 - 48) ∧ 2 ^ k ≤ m ∧ m < 10 * 2 ^ k := by
  have hP := Nat.two_pow_pos k
  have hP2 : 2 ^ k ≤ 1152921504606846976 := Nat.le_trans (Nat.pow_le_pow_right (by decide) hk2) (by decide)
  obtain ⟨t1, hT, hI, hn⟩ := Tr.ends (f := r1F x nd (2 ^ k)) (fun s => nd + 1 - s.1) (I1 x nd (2 ^ k)) (fun s t hs e => I1.go hd h1 h0 hP hs e) _ (0, 0) (Nat.le_refl _) ⟨.inl ⟨rfl, rfl⟩⟩
  refine ⟨t1, hT, ?_⟩
  by_cases hlt : t1.2 < 2 ^ k
  · have hr : ¬ t1.1 < nd := fun h => by unfold r1F at hn; rw [if_pos hlt, if_pos h] at hn; cases hn
    have hI2 : t1.1 = nd ∧ 1 ≤ t1.2 ∧ (nd = 1 → t1.2 = x 0 - 48) := by
      rcases hI.h with ⟨a, _⟩ | ⟨a, b, c, d, e⟩
      · omega
      · exact ⟨by omega, c, fun h => e (by omega)⟩
    obtain ⟨t2, hT2, ⟨j, e1, e2, e3, e4⟩, hn2⟩ := Tr.ends (f := r2F (2 ^ k)) (fun s => 10 * 2 ^ k - s.2) (I2 nd t1.2 (2 ^ k)) (fun s t hs e => I2.go hs e) _ t1 (Nat.le_refl _) ⟨0, by omega, by simpa using hI2.2.1, by omega, fun _ => rfl⟩
    have hge : ¬ t2.2 < 2 ^ k := fun h => by unfold r2F at hn2; rw [if_pos h] at hn2; cases hn2
    have hj : j < 64 := (Nat.pow_lt_pow_iff_right (show 1 < 2 by decide)).1 (Nat.lt_of_le_of_lt e2 (show t2.2 < 2 ^ 64 by omega))
    refine ⟨t2.1, t2.2, .inr ⟨hlt, hI2.1, hI2.2.1, hT2⟩, by omega, by omega, fun h => ?_, by omega, e3⟩
    rw [e4 (by omega)]
    exact hI2.2.2 (by omega)
  · rcases hI.h with ⟨_, b⟩ | ⟨a, b, c, d, e⟩
    · omega
    · exact ⟨t1.1, t1.2, .inl ⟨by omega, rfl⟩, a, by omega, e, by omega, d⟩
theorem r34_ends (x : Nat → Nat) (nd k s m : Nat) (tr : Bool) (hd : Dg x nd) (hs1 : 1 ≤ s) (hm1 : 2 ^ k ≤ m) (hm2 : m < 10 * 2 ^ k) (h8 : nd ≤ 800) : ∃ t3 : Nat × Nat × Nat × (Nat → Nat), Tr (r3F x nd (2 ^ k)) (s, 0, m, x) t3 ∧
    ∃ t4 : Nat × Nat × (Nat → Nat) × Bool, Tr (r4F (2 ^ k)) (t3.2.1, t3.2.2.1, t3.2.2.2, tr) t4 ∧ t4.2.1 = 0 ∧ 1 ≤ t4.1 ∧ t4.1 ≤ 800 ∧ Dg t4.2.2.1 t4.1 ∧ t4.2.2.1 0 = 48 + m / 2 ^ k := by
  have hP := Nat.two_pow_pos k
  obtain ⟨t3, hT, ⟨a1, a2, a3, a4, a5, a6, a7⟩, hn⟩ := Tr.ends (f := r3F x nd (2 ^ k)) (fun s => nd - s.1) (I3 x nd (2 ^ k) s m) (fun s t hs e => I3.go hd hP hs1 hs e) _ (s, 0, m, x) (Nat.le_refl _) ⟨hm2, by dsimp only; omega, .inr rfl, fun _ _ => rfl, fun i hi => by dsimp only at hi; omega, fun _ => rfl, fun h => by dsimp only at h; omega⟩
  obtain ⟨t4, hT4, ⟨b1, b2, b3, b4, b5⟩, hn4⟩ := Tr.ends (f := r4F (2 ^ k)) (fun s => mu (k + 5) s.2.1) (I4 (2 ^ k) m) (fun s t hs e => I4.go hs e) _ (t3.2.1, t3.2.2.1, t3.2.2.2, tr) (Nat.le_refl _) ⟨a1, by dsimp only; omega, a5, a6, a7⟩
  have h0 : ¬ 0 < t4.2.1 := fun h => by
    unfold r4F at hn4
    rw [if_pos h] at hn4
    split at hn4 <;> cases hn4
  have hq : 1 ≤ t4.1 := by
    rcases Nat.eq_zero_or_pos t4.1 with h | h
    · have := b4 h; omega
    · exact h
  exact ⟨t3, hT, t4, hT4, by omega, hq, b2, b3, b5 hq⟩
end Go.Proofs.YtfkecmlmnhbmoaaGreatDoor
namespace Go.Proofs.YtfkecmlmnhbmoaaGreatDoor
open Go.RowKit Go.Sort
set_option maxRecDepth 100000 in
set_option maxHeartbeats 4000000 in
theorem rshiftF (x : Nat → Nat) (nd : Nat) (dp : Int) (ng tr : Bool) (k : Nat) (hd : Dg x nd) (h1 : 1 ≤ nd) (h8 : nd ≤ 800) (h0 : x 0 ≠ 48) (hk1 : 1 ≤ k) (hk2 : k ≤ 60) (hp1 : -1000000000 ≤ dp) (hp2 : dp ≤ 1000000000) :
    ∃ (x' : Nat → Nat) (nd' : Nat) (dp' : Int) (tr' : Bool), (Dg x' nd' ∧ 1 ≤ nd' ∧ nd' ≤ 800 ∧ x' 0 ≠ 48 ∧ dp' ≤ dp ∧ dp - 900 ≤ dp' ∧ (dp' = dp → 2 ^ k ≤ x 0 - 48 ∧ x' 0 = 48 + (x 0 - 48) / 2 ^ k)) ∧
      ∀ (B : Nat) (w : World), Dec w B x nd dp ng tr → Calls Tryz.prog 207 #[.pointer (some ⟨B, 0, none⟩), .int .u64 k] w fun en w' => en = .returned (.tuple #[]) ∧ Kept [B] w w' ∧ Dec w' B x' nd' dp' ng tr' := by
  have hP : 2 ^ k ≤ 1152921504606846976 := by
    have : 2 ^ k ≤ 2 ^ 60 := Nat.pow_le_pow_right (by decide) hk2
    exact this
  have hP0 : 0 < 2 ^ k := Nat.two_pow_pos k
  obtain ⟨t1, hT1, s, m, hcase, hs1, hs2, hs3, hm1, hm10⟩ := r12_ends x nd k hd h1 h0 hk2
  obtain ⟨t3, hT3, t4, hT4, hz4, hq1, hq8, hdy, hy0⟩ := r34_ends x nd k s m tr hd hs1 hm1 hm10 h8
  obtain ⟨nd', ⟨hnd', hge⟩, hTM⟩ := dtrimF t4.2.2.1 t4.1 (dp - ((s : Int) - 1)) ng t4.2.2.2 hq8
  have hmd : 1 ≤ m / 2 ^ k := (Nat.one_le_div_iff hP0).2 hm1
  have hge1 := hge hq1 (by rw [hy0]; omega)
  have hz : zdp nd' (dp - ((s : Int) - 1)) = dp - ((s : Int) - 1) := zdp_pos hge1
  refine ⟨t4.2.2.1, nd', dp - ((s : Int) - 1), t4.2.2.2, ⟨fun i hi => hdy i (by omega), hge1, by omega, by rw [hy0]; omega, by omega, by omega, fun h => ?_⟩, fun B w hD => ?_⟩
  · have hm := hs3 (by omega)
    rw [hy0, ← hm]
    exact ⟨hm1, rfl⟩
  have hf := hD.free
  have cN := hD.n; have cP := hD.p
  have dlt : ∀ n : Nat, n < 2 ^ k → (n : Int) / 2 ^ k = 0 := fun n h => by
    have : ((n / 2 ^ k : Nat) : Int) = 0 := by rw [Nat.div_eq_of_lt h]; rfl
    simpa using this
  have dge : ∀ n : Nat, 2 ^ k ≤ n → ((n : Int) / 2 ^ k == 0) = false := fun n h => by
    have h1 : 1 ≤ n / 2 ^ k := (Nat.one_le_div_iff hP0).2 h
    have : ((n / 2 ^ k : Nat) : Int) ≠ 0 := by omega
    exact beq_eq_false_iff_ne.2 (by simpa using this)
  have Hlt := Lib.hid dlt; have Hge := Lib.hid dge; have HT1 := Lib.hid hT1; have HC := Lib.hid hcase; have HT3 := Lib.hid hT3; have HT4 := Lib.hid hT4; have HTM := Lib.hid hTM; have HZ := Lib.hid hz
  clear dlt dge hT1 hcase hT3 hT4 hTM hz hz4 hq1 hq8 hdy hy0 hge hge1 hnd' hmd hs3
  go_enter Tryz.func207, Tryz.ntmps207
  go_wp2_with fail
  go_loop [4, 6] (fun vr vn => ∃ r n : Nat, vr = .int .i64 r ∧ vn = .int .u64 n ∧ I1 x nd (2 ^ k) (r, n) ∧ Tr (r1F x nd (2 ^ k)) (r, n) t1) (fun vr _ => nd + 1 - (intOf vr).toNat)
  case atStart => exact ⟨0, 0, rfl, rfl, ⟨.inl ⟨rfl, rfl⟩⟩, HT1.out⟩
  case round =>
    obtain ⟨r, n, rfl, rfl, hI, hT⟩ := hrel
    have hrn := hI.h
    dsimp only at hrn
    have HI := Lib.hid hI; have HT := Lib.hid hT; clear hI hT
    have hn10 : n < 10 * 2 ^ k := by omega
    by_cases hlt : n < 2 ^ k
    · have e0 := Hlt.out n hlt
      by_cases hr : r < nd
      · have cD := hD.dig r (by omega)
        have hx := hd r hr
        have hx0 := hd 0 (by omega)
        have hst : r1F x nd (2 ^ k) (r, n) = some (r + 1, n * 10 + (x r - 48)) := by unfold r1F; rw [if_pos hlt, if_pos hr]
        have HI2 := Lib.hid (HI.out.go hd h1 h0 hP0 hst).1
        have HT2 := Lib.hid (HT.out.next hst)
        clear hst
        go_wp2_with fail
        exact ⟨⟨r + 1, n * 10 + (x r - 48), rfl, congrArg (Value.int .u64) (by omega), HI2.out, HT2.out⟩, by simp [intOf]; omega⟩
      · have hte := HT.out.last (show r1F x nd (2 ^ k) (r, n) = none by unfold r1F; rw [if_pos hlt, if_neg hr])
        subst hte
        obtain ⟨hcr, hcn, hT2⟩ : r = nd ∧ 1 ≤ n ∧ Tr (r2F (2 ^ k)) (r, n) (s, m) := by
          rcases HC.out with ⟨h, _⟩ | ⟨_, a, b, c⟩
          · dsimp only at h; omega
          · exact ⟨a, b, c⟩
        obtain rfl : nd = r := hcr.symm
        clear hcr
        have HT2 := Lib.hid hT2; clear hT2
        have z0 : ((n : Int) == 0) = false := beq_eq_false_iff_ne.2 (by omega)
        clear hrn
        go_wp2_with fail
        clear e0 z0
        go_loop [4, 6] (fun vr vn => ∃ a b : Nat, vr = .int .i64 a ∧ vn = .int .u64 b ∧ I2 nd n (2 ^ k) (a, b) ∧ Tr (r2F (2 ^ k)) (a, b) (s, m)) (fun _ vn => 10 * 2 ^ k - (intOf vn).toNat)
        case atStart => exact ⟨nd, n, rfl, rfl, ⟨0, rfl, by simpa using hcn, hn10, fun _ => rfl⟩, HT2.out⟩
        case round =>
          obtain ⟨a, b, rfl, rfl, hI, hT⟩ := hrel
          obtain ⟨j, ha, hj, hb10, hj0⟩ := hI.h
          dsimp only at ha hj hb10
          have HI := Lib.hid hI; have HT := Lib.hid hT; clear hI hT
          have hj64 : j < 64 := (Nat.pow_lt_pow_iff_right (show 1 < 2 by decide)).1 (Nat.lt_of_le_of_lt hj (show b < 2 ^ 64 by omega))
          have hb1 : 1 ≤ b := Nat.le_trans Nat.one_le_two_pow hj
          clear hj hj0
          by_cases hlt2 : b < 2 ^ k
          · have e0 := Hlt.out b hlt2
            have hst : r2F (2 ^ k) (a, b) = some (a + 1, b * 10) := if_pos hlt2
            have HI2 := Lib.hid (HI.out.go hst).1
            have HT2 := Lib.hid (HT.out.next hst)
            clear hst
            go_wp2_with fail
            exact ⟨⟨a + 1, b * 10, congrArg (Value.int .i64) (by omega), congrArg (Value.int .u64) (by omega), HI2.out, HT2.out⟩, by simp [intOf]; omega⟩
          · have hte := HT.out.last (show r2F (2 ^ k) (a, b) = none from if_neg hlt2)
            obtain ⟨e1, e2⟩ := Prod.mk.inj hte
            subst e1 e2
            clear hte
            have e0 := Hge.out m (by omega)
            clear HI HT ha
            have hcr := hs2
            obtain ⟨M, hM⟩ : ∃ M : Nat, M = 2 ^ k - 1 := ⟨_, rfl⟩
            have hmk : IntKind.u64.wrap (IntKind.u64.wrap (2 ^ k) - 1) = (M : Int) := by
              have e1 : ((2 : Int) ^ k) = ((2 ^ k : Nat) : Int) := by simp
              rw [e1, IntKind.wrap_u64, IntKind.wrap_u64]; omega
            have hms : ∀ n : Nat, n < 18446744073709551616 → bits .and .u64 (n : Int) (M : Int) = ((n % 2 ^ k : Nat) : Int) := fun n hn => by
              have e1 : (M : Int) = 2 ^ k - 1 := by
                have : ((2 : Int) ^ k) = ((2 ^ k : Nat) : Int) := by simp
                rw [this]; omega
              rw [e1, bits_mask .u64 64 (by decide) (fun n h0 h1 => by rw [IntKind.wrap_u64]; omega) k (by omega) (n : Int) (by omega) (by omega)]
              simp
            have Hms := Lib.hid hms; clear hms hM
            go_wp2_with fail
            clear e0
            have D1 := hD.setP (dp - ((s : Int) - 1))
            have K1 : Kept [B] w (w.setCell ⟨B, 801, none⟩ (.int .i64 (dp - ((s : Int) - 1)))) := (Kept.refl _ _).set1 _ _
            generalize w.setCell ⟨B, 801, none⟩ (.int .i64 (dp - ((s : Int) - 1))) = w1 at D1 K1 ⊢
            clear hf cN cP
            go_loopw [4, 5, 6] (fun vr vq vn wr => ∃ (r q n : Nat) (y : Nat → Nat), vr = .int .i64 r ∧ vq = .int .i64 q ∧ vn = .int .u64 n ∧ Dec wr B y nd (dp - ((s : Int) - 1)) ng tr ∧ Kept [B] w wr ∧ I3 x nd (2 ^ k) s m (r, q, n, y) ∧ Tr (r3F x nd (2 ^ k)) (r, q, n, y) t3) (fun vr _ _ _ => nd - (intOf vr).toNat)
            case atStart => exact ⟨s, 0, m, x, rfl, rfl, rfl, D1, K1, ⟨hm10, by dsimp only; omega, .inr rfl, fun _ _ => rfl, fun i hi => by dsimp only at hi; omega, fun _ => rfl, fun h => by dsimp only at h; omega⟩, HT3.out⟩
            case round =>
              obtain ⟨r, q, n, y, rfl, rfl, rfl, hDr, hKr, hI, hT⟩ := hrel
              have hn10 : n < 10 * 2 ^ k := hI.n10
              have hqs : q + s = r := hI.qs
              have hor : r ≤ nd ∨ q = 0 := hI.or
              have HI := Lib.hid hI; have HT := Lib.hid hT; clear hI hT
              have hf := hDr.free
              have cN := hDr.n
              by_cases hrn : r < nd
              · have cD := hDr.dig r (by omega)
                have hyr : y r = x r := HI.out.y r (Nat.le_refl _)
                rw [hyr] at cD
                clear hyr
                have hx := hd r hrn
                have cQ := hDr.dig q (by omega)
                have hst : r3F x nd (2 ^ k) (r, q, n, y) = some (r + 1, q + 1, n % 2 ^ k * 10 + (x r - 48), upd y q (n / 2 ^ k + 48)) := if_pos hrn
                have HI2 := Lib.hid (HI.out.go hd hP0 hs1 hst).1
                have HT2 := Lib.hid (HT.out.next hst)
                clear hst
                obtain ⟨dq, hdq, hdq2⟩ : ∃ dq : Nat, (n : Int) / 2 ^ k = (dq : Int) ∧ dq = n / 2 ^ k := ⟨n / 2 ^ k, by simp, rfl⟩
                have hdq9 : dq ≤ 9 := by have := (Nat.div_lt_iff_lt_mul hP0).2 hn10; omega
                have Hdq2 := Lib.hid hdq2; clear hdq2
                have hb := Hms.out n (by omega)
                have hmn2 : n % 2 ^ k < 2 ^ k := Nat.mod_lt _ hP0
                obtain ⟨mn, hmn⟩ : ∃ mn, n % 2 ^ k = mn := ⟨_, rfl⟩
                rw [hmn] at hb hmn2
                have Hmn := Lib.hid hmn; clear hmn
                go_wp2_with fail
                have D2 : Dec (wr.setCell ⟨B, q, none⟩ (.int .u8 ((dq : Int) + 48))) B (upd y q (dq + 48)) nd (dp - ((s : Int) - 1)) ng tr := hDr.setD (by omega) (dq + 48)
                exact ⟨⟨r + 1, q + 1, n % 2 ^ k * 10 + (x r - 48), upd y q (n / 2 ^ k + 48), rfl, rfl, congrArg (Value.int .u64) (by rw [Hmn.out]; omega), by rw [← Hdq2.out]; exact D2, hKr.set1 _ _, HI2.out, HT2.out⟩, by simp [intOf]; omega⟩
              · have hte := HT.out.last (show r3F x nd (2 ^ k) (r, q, n, y) = none from if_neg hrn)
                subst hte
                go_wp2_with fail
                go_loopw [5, 6] (fun vq vn wz => ∃ (q n : Nat) (y : Nat → Nat) (tr' : Bool), vq = .int .i64 q ∧ vn = .int .u64 n ∧ Dec wz B y nd (dp - ((s : Int) - 1)) ng tr' ∧ Kept [B] w wz ∧ I4 (2 ^ k) m (q, n, y, tr') ∧ Tr (r4F (2 ^ k)) (q, n, y, tr') t4) (fun _ vn _ => mu (k + 5) (intOf vn).toNat)
                case atStart => exact ⟨q, n, y, tr, rfl, rfl, hDr, hKr, ⟨hn10, by dsimp only; omega, HI.out.dg, HI.out.q0, HI.out.q1⟩, HT4.out⟩
                case round =>
                  obtain ⟨q, n, y, tr', rfl, rfl, hDr, hKr, hI, hT⟩ := hrel
                  have hn10 : n < 10 * 2 ^ k := hI.n10
                  have hq8 : q ≤ 800 := hI.q8
                  have HI := Lib.hid hI; have HT := Lib.hid hT; clear hI hT
                  have hf := hDr.free
                  by_cases hn0 : 0 < n
                  · have hdown := mu_down k n hn0 hn10
                    have HDW := Lib.hid hdown; clear hdown
                    obtain ⟨dq, hdq, hdq2⟩ : ∃ dq : Nat, (n : Int) / 2 ^ k = (dq : Int) ∧ dq = n / 2 ^ k := ⟨n / 2 ^ k, by simp, rfl⟩
                    have hdq9 : dq ≤ 9 := by have := (Nat.div_lt_iff_lt_mul hP0).2 hn10; omega
                    have Hdq2 := Lib.hid hdq2; clear hdq2
                    have hb := Hms.out n (by omega)
                    have hmn2 : n % 2 ^ k < 2 ^ k := Nat.mod_lt _ hP0
                    obtain ⟨mn, hmn⟩ : ∃ mn, n % 2 ^ k = mn := ⟨_, rfl⟩
                    rw [hmn] at hb hmn2
                    have Hmn := Lib.hid hmn; clear hmn
                    have e : (intOf (Value.int .u64 ((mn : Int) * 10))).toNat = mn * 10 := by simp [intOf]; omega
                    have e2 : (intOf (Value.int .u64 (n : Int))).toNat = n := by simp [intOf]
                    have E1 := Lib.hid e; have E2 := Lib.hid e2; clear e e2
                    by_cases hq : q < 800
                    · have cQ := hDr.dig q (by omega)
                      have hst : r4F (2 ^ k) (q, n, y, tr') = some (q + 1, n % 2 ^ k * 10, upd y q (n / 2 ^ k + 48), tr') := by unfold r4F; rw [if_pos hn0, if_pos hq]
                      have HI2 := Lib.hid (HI.out.go hst).1
                      have HT2 := Lib.hid (HT.out.next hst)
                      clear hst
                      go_wp2_with fail
                      have D2 : Dec (wr.setCell ⟨B, q, none⟩ (.int .u8 ((dq : Int) + 48))) B (upd y q (dq + 48)) nd (dp - ((s : Int) - 1)) ng tr' := hDr.setD (by omega) (dq + 48)
                      refine ⟨⟨q + 1, n % 2 ^ k * 10, upd y q (n / 2 ^ k + 48), tr', rfl, congrArg (Value.int .u64) (by rw [Hmn.out]; omega), by rw [← Hdq2.out]; exact D2, hKr.set1 _ _, HI2.out, HT2.out⟩, ?_⟩
                      rw [E1.out, E2.out, ← Hmn.out]; exact HDW.out
                    · have cT := hDr.t
                      have hst : r4F (2 ^ k) (q, n, y, tr') = some (q, n % 2 ^ k * 10, y, tr' || decide (0 < n / 2 ^ k)) := by unfold r4F; rw [if_pos hn0, if_neg hq]
                      have HI2 := Lib.hid (HI.out.go hst).1
                      have HT2 := Lib.hid (HT.out.next hst)
                      clear hst
                      by_cases hd0 : 0 < dq
                      · have hor : (tr' || decide (0 < n / 2 ^ k)) = true := by rw [← Hdq2.out]; simp [hd0]
                        have HOR := Lib.hid hor; clear hor
                        go_wp2_with fail
                        refine ⟨⟨q, n % 2 ^ k * 10, y, true, rfl, congrArg (Value.int .u64) (by rw [Hmn.out]; omega), hDr.setT true, hKr.set1 _ _, by have := HI2.out; rw [HOR.out] at this; exact this, by have := HT2.out; rw [HOR.out] at this; exact this⟩, ?_⟩
                        rw [E1.out, E2.out, ← Hmn.out]; exact HDW.out
                      · have hor : (tr' || decide (0 < n / 2 ^ k)) = tr' := by rw [← Hdq2.out]; simp [hd0]
                        have HOR := Lib.hid hor; clear hor
                        go_wp2_with fail
                        refine ⟨⟨q, n % 2 ^ k * 10, y, tr', rfl, congrArg (Value.int .u64) (by rw [Hmn.out]; omega), hDr, hKr, by have := HI2.out; rw [HOR.out] at this; exact this, by have := HT2.out; rw [HOR.out] at this; exact this⟩, ?_⟩
                        rw [E1.out, E2.out, ← Hmn.out]; exact HDW.out
                  · have hte := HT.out.last (show r4F (2 ^ k) (q, n, y, tr') = none from if_neg hn0)
                    subst hte
                    have cN := hDr.n
                    go_wp2_with fail
                    refine (HTM.out _ _ (hDr.setN q)).mono ?_
                    rintro en w' ⟨rfl, hKt, hDt⟩
                    go_wp2_with fail
                    go_end0
                    exact ⟨rfl, Kept.trans (hKr.set1 _ _) hKt (fun _ h => h) (fun _ h _ => h), by have := HZ.out; rw [← this]; exact hDt⟩
    · have hte := HT.out.last (show r1F x nd (2 ^ k) (r, n) = none by unfold r1F; rw [if_neg hlt])
      subst hte
      have hte : (r, n) = (s, m) := by
        rcases HC.out with ⟨_, h⟩ | ⟨h, _⟩
        · exact h
        · dsimp only at h; omega
      obtain ⟨e1, e2⟩ := Prod.mk.inj hte.symm
      subst e1 e2
      have e0 := Hge.out m (by omega)
      clear hrn hte
      obtain ⟨M, hM⟩ : ∃ M : Nat, M = 2 ^ k - 1 := ⟨_, rfl⟩
      have hmk : IntKind.u64.wrap (IntKind.u64.wrap (2 ^ k) - 1) = (M : Int) := by
        have e1 : ((2 : Int) ^ k) = ((2 ^ k : Nat) : Int) := by simp
        rw [e1, IntKind.wrap_u64, IntKind.wrap_u64]; omega
      have hms : ∀ n : Nat, n < 18446744073709551616 → bits .and .u64 (n : Int) (M : Int) = ((n % 2 ^ k : Nat) : Int) := fun n hn => by
        have e1 : (M : Int) = 2 ^ k - 1 := by
          have : ((2 : Int) ^ k) = ((2 ^ k : Nat) : Int) := by simp
          rw [this]; omega
        rw [e1, bits_mask .u64 64 (by decide) (fun n h0 h1 => by rw [IntKind.wrap_u64]; omega) k (by omega) (n : Int) (by omega) (by omega)]
        simp
      have Hms := Lib.hid hms; clear hms hM
      go_wp2_with fail
      clear e0
      have D1 := hD.setP (dp - ((s : Int) - 1))
      have K1 : Kept [B] w (w.setCell ⟨B, 801, none⟩ (.int .i64 (dp - ((s : Int) - 1)))) := (Kept.refl _ _).set1 _ _
      generalize w.setCell ⟨B, 801, none⟩ (.int .i64 (dp - ((s : Int) - 1))) = w1 at D1 K1 ⊢
      clear hf cN cP
      go_loopw [4, 5, 6] (fun vr vq vn wr => ∃ (r q n : Nat) (y : Nat → Nat), vr = .int .i64 r ∧ vq = .int .i64 q ∧ vn = .int .u64 n ∧ Dec wr B y nd (dp - ((s : Int) - 1)) ng tr ∧ Kept [B] w wr ∧ I3 x nd (2 ^ k) s m (r, q, n, y) ∧ Tr (r3F x nd (2 ^ k)) (r, q, n, y) t3) (fun vr _ _ _ => nd - (intOf vr).toNat)
      case atStart => exact ⟨s, 0, m, x, rfl, rfl, rfl, D1, K1, ⟨hm10, by dsimp only; omega, .inr rfl, fun _ _ => rfl, fun i hi => by dsimp only at hi; omega, fun _ => rfl, fun h => by dsimp only at h; omega⟩, HT3.out⟩
      case round =>
        obtain ⟨r, q, n, y, rfl, rfl, rfl, hDr, hKr, hI, hT⟩ := hrel
        have hn10 : n < 10 * 2 ^ k := hI.n10
        have hqs : q + s = r := hI.qs
        have hor : r ≤ nd ∨ q = 0 := hI.or
        have HI := Lib.hid hI; have HT := Lib.hid hT; clear hI hT
        have hf := hDr.free
        have cN := hDr.n
        by_cases hrn : r < nd
        · have cD := hDr.dig r (by omega)
          have hyr : y r = x r := HI.out.y r (Nat.le_refl _)
          rw [hyr] at cD
          clear hyr
          have hx := hd r hrn
          have cQ := hDr.dig q (by omega)
          have hst : r3F x nd (2 ^ k) (r, q, n, y) = some (r + 1, q + 1, n % 2 ^ k * 10 + (x r - 48), upd y q (n / 2 ^ k + 48)) := if_pos hrn
          have HI2 := Lib.hid (HI.out.go hd hP0 hs1 hst).1
          have HT2 := Lib.hid (HT.out.next hst)
          clear hst
          obtain ⟨dq, hdq, hdq2⟩ : ∃ dq : Nat, (n : Int) / 2 ^ k = (dq : Int) ∧ dq = n / 2 ^ k := ⟨n / 2 ^ k, by simp, rfl⟩
          have hdq9 : dq ≤ 9 := by have := (Nat.div_lt_iff_lt_mul hP0).2 hn10; omega
          have Hdq2 := Lib.hid hdq2; clear hdq2
          have hb := Hms.out n (by omega)
          have hmn2 : n % 2 ^ k < 2 ^ k := Nat.mod_lt _ hP0
          obtain ⟨mn, hmn⟩ : ∃ mn, n % 2 ^ k = mn := ⟨_, rfl⟩
          rw [hmn] at hb hmn2
          have Hmn := Lib.hid hmn; clear hmn
          go_wp2_with fail
          have D2 : Dec (wr.setCell ⟨B, q, none⟩ (.int .u8 ((dq : Int) + 48))) B (upd y q (dq + 48)) nd (dp - ((s : Int) - 1)) ng tr := hDr.setD (by omega) (dq + 48)
          exact ⟨⟨r + 1, q + 1, n % 2 ^ k * 10 + (x r - 48), upd y q (n / 2 ^ k + 48), rfl, rfl, congrArg (Value.int .u64) (by rw [Hmn.out]; omega), by rw [← Hdq2.out]; exact D2, hKr.set1 _ _, HI2.out, HT2.out⟩, by simp [intOf]; omega⟩
        · have hte := HT.out.last (show r3F x nd (2 ^ k) (r, q, n, y) = none from if_neg hrn)
          subst hte
          go_wp2_with fail
          go_loopw [5, 6] (fun vq vn wz => ∃ (q n : Nat) (y : Nat → Nat) (tr' : Bool), vq = .int .i64 q ∧ vn = .int .u64 n ∧ Dec wz B y nd (dp - ((s : Int) - 1)) ng tr' ∧ Kept [B] w wz ∧ I4 (2 ^ k) m (q, n, y, tr') ∧ Tr (r4F (2 ^ k)) (q, n, y, tr') t4) (fun _ vn _ => mu (k + 5) (intOf vn).toNat)
          case atStart => exact ⟨q, n, y, tr, rfl, rfl, hDr, hKr, ⟨hn10, by dsimp only; omega, HI.out.dg, HI.out.q0, HI.out.q1⟩, HT4.out⟩
          case round =>
            obtain ⟨q, n, y, tr', rfl, rfl, hDr, hKr, hI, hT⟩ := hrel
            have hn10 : n < 10 * 2 ^ k := hI.n10
            have hq8 : q ≤ 800 := hI.q8
            have HI := Lib.hid hI; have HT := Lib.hid hT; clear hI hT
            have hf := hDr.free
            by_cases hn0 : 0 < n
            · have hdown := mu_down k n hn0 hn10
              have HDW := Lib.hid hdown; clear hdown
              obtain ⟨dq, hdq, hdq2⟩ : ∃ dq : Nat, (n : Int) / 2 ^ k = (dq : Int) ∧ dq = n / 2 ^ k := ⟨n / 2 ^ k, by simp, rfl⟩
              have hdq9 : dq ≤ 9 := by have := (Nat.div_lt_iff_lt_mul hP0).2 hn10; omega
              have Hdq2 := Lib.hid hdq2; clear hdq2
              have hb := Hms.out n (by omega)
              have hmn2 : n % 2 ^ k < 2 ^ k := Nat.mod_lt _ hP0
              obtain ⟨mn, hmn⟩ : ∃ mn, n % 2 ^ k = mn := ⟨_, rfl⟩
              rw [hmn] at hb hmn2
              have Hmn := Lib.hid hmn; clear hmn
              have e : (intOf (Value.int .u64 ((mn : Int) * 10))).toNat = mn * 10 := by simp [intOf]; omega
              have e2 : (intOf (Value.int .u64 (n : Int))).toNat = n := by simp [intOf]
              have E1 := Lib.hid e; have E2 := Lib.hid e2; clear e e2
              by_cases hq : q < 800
              · have cQ := hDr.dig q (by omega)
                have hst : r4F (2 ^ k) (q, n, y, tr') = some (q + 1, n % 2 ^ k * 10, upd y q (n / 2 ^ k + 48), tr') := by unfold r4F; rw [if_pos hn0, if_pos hq]
                have HI2 := Lib.hid (HI.out.go hst).1
                have HT2 := Lib.hid (HT.out.next hst)
                clear hst
                go_wp2_with fail
                have D2 : Dec (wr.setCell ⟨B, q, none⟩ (.int .u8 ((dq : Int) + 48))) B (upd y q (dq + 48)) nd (dp - ((s : Int) - 1)) ng tr' := hDr.setD (by omega) (dq + 48)
                refine ⟨⟨q + 1, n % 2 ^ k * 10, upd y q (n / 2 ^ k + 48), tr', rfl, congrArg (Value.int .u64) (by rw [Hmn.out]; omega), by rw [← Hdq2.out]; exact D2, hKr.set1 _ _, HI2.out, HT2.out⟩, ?_⟩
                rw [E1.out, E2.out, ← Hmn.out]; exact HDW.out
              · have cT := hDr.t
                have hst : r4F (2 ^ k) (q, n, y, tr') = some (q, n % 2 ^ k * 10, y, tr' || decide (0 < n / 2 ^ k)) := by unfold r4F; rw [if_pos hn0, if_neg hq]
                have HI2 := Lib.hid (HI.out.go hst).1
                have HT2 := Lib.hid (HT.out.next hst)
                clear hst
                by_cases hd0 : 0 < dq
                · have hor : (tr' || decide (0 < n / 2 ^ k)) = true := by rw [← Hdq2.out]; simp [hd0]
                  have HOR := Lib.hid hor; clear hor
                  go_wp2_with fail
                  refine ⟨⟨q, n % 2 ^ k * 10, y, true, rfl, congrArg (Value.int .u64) (by rw [Hmn.out]; omega), hDr.setT true, hKr.set1 _ _, by have := HI2.out; rw [HOR.out] at this; exact this, by have := HT2.out; rw [HOR.out] at this; exact this⟩, ?_⟩
                  rw [E1.out, E2.out, ← Hmn.out]; exact HDW.out
                · have hor : (tr' || decide (0 < n / 2 ^ k)) = tr' := by rw [← Hdq2.out]; simp [hd0]
                  have HOR := Lib.hid hor; clear hor
                  go_wp2_with fail
                  refine ⟨⟨q, n % 2 ^ k * 10, y, tr', rfl, congrArg (Value.int .u64) (by rw [Hmn.out]; omega), hDr, hKr, by have := HI2.out; rw [HOR.out] at this; exact this, by have := HT2.out; rw [HOR.out] at this; exact this⟩, ?_⟩
                  rw [E1.out, E2.out, ← Hmn.out]; exact HDW.out
            · have hte := HT.out.last (show r4F (2 ^ k) (q, n, y, tr') = none from if_neg hn0)
              subst hte
              have cN := hDr.n
              go_wp2_with fail
              refine (HTM.out _ _ (hDr.setN q)).mono ?_
              rintro en w' ⟨rfl, hKt, hDt⟩
              go_wp2_with fail
              go_end0
              exact ⟨rfl, Kept.trans (hKr.set1 _ _) hKt (fun _ h => h) (fun _ h _ => h), by have := HZ.out; rw [← this]; exact hDt⟩
end Go.Proofs.YtfkecmlmnhbmoaaGreatDoor
namespace Go.Proofs.YtfkecmlmnhbmoaaGreatDoor
open Go.RowKit Go.Sort
def a1F (s : Nat × Nat × (Nat → Nat)) : Option (Nat × Nat × (Nat → Nat)) := if 0 < s.1 then some (s.1 / 10, s.2.1 + 1, upd s.2.2 s.2.1 (s.1 % 10 + 48)) else none
def a2F (y : Nat → Nat) (n : Nat) (s : Nat × (Nat → Nat)) : Option (Nat × (Nat → Nat)) := if s.1 < n then some (s.1 + 1, upd s.2 s.1 (y (n - 1 - s.1))) else none
structure A1 (v : Nat) (s : Nat × Nat × (Nat → Nat)) : Prop where
  un : s.1 * 10 ^ s.2.1 ≤ v
  n20 : s.2.1 ≤ 20
  dg : Dg s.2.2 s.2.1
  u0 : s.1 = 0 → 1 ≤ s.2.1 ∧ s.2.2 (s.2.1 - 1) ≠ 48
theorem A1.lt {v : Nat} (hv2 : v < 18446744073709551616) {s : Nat × Nat × (Nat → Nat)} (h : A1 v s) (hu : 0 < s.1) : s.2.1 < 20 := by
  rcases Nat.lt_or_ge s.2.1 20 with h2 | h2
  · exact h2
  · have h3 : 10 ^ 20 ≤ 10 ^ s.2.1 := Nat.pow_le_pow_right (by decide) h2
    have h4 : 1 * 10 ^ s.2.1 ≤ s.1 * 10 ^ s.2.1 := Nat.mul_le_mul_right _ hu
    have h5 : (10 : Nat) ^ 20 = 100000000000000000000 := by decide
    have := h.un
    omega
theorem A1.go {v : Nat} (hv2 : v < 18446744073709551616) {s t : Nat × Nat × (Nat → Nat)} (h : A1 v s) (e : a1F s = some t) : A1 v t ∧ t.1 < s.1 := by
  unfold a1F at e
  split at e
  · rename_i hu
    have hl := h.lt hv2 hu
    cases e
    refine ⟨⟨?_, by dsimp only; omega, h.dg.snoc (by omega) (by omega), fun h0 => ⟨by dsimp only; omega, ?_⟩⟩, by dsimp only; omega⟩
    · dsimp only
      rw [Nat.pow_succ, Nat.mul_comm (10 ^ s.2.1) 10, ← Nat.mul_assoc]
      exact Nat.le_trans (Nat.mul_le_mul_right _ (Nat.div_mul_le_self s.1 10)) h.un
    · dsimp only at h0 ⊢
      rw [Nat.add_sub_cancel, upd_at]; omega
  · cases e
structure A2 (y : Nat → Nat) (n : Nat) (s : Nat × (Nat → Nat)) : Prop where
  c : s.1 ≤ n
  z : ∀ i, i < s.1 → s.2 i = y (n - 1 - i)
theorem A2.go {y : Nat → Nat} {n : Nat} {s t : Nat × (Nat → Nat)} (h : A2 y n s) (e : a2F y n s = some t) : A2 y n t ∧ n - t.1 < n - s.1 := by
  unfold a2F at e
  split at e
  · cases e
    refine ⟨⟨by dsimp only; omega, fun i hi => ?_⟩, by dsimp only; omega⟩
    dsimp only at hi ⊢
    by_cases e : i = s.1
    · subst e; exact upd_at _ _ _
    · rw [upd_ne _ _ e]; exact h.z i (by omega)
  · cases e
set_option maxRecDepth 100000 in
set_option maxHeartbeats 4000000 in
theorem dassignF (x : Nat → Nat) (nd : Nat) (dp : Int) (ng tr : Bool) (v : Nat) (hv : 0 < v) (hv2 : v < 18446744073709551616) :
    ∃ (x' : Nat → Nat) (nd' : Nat) (dp' : Int), (Dg x' nd' ∧ 1 ≤ nd' ∧ nd' ≤ 20 ∧ x' 0 ≠ 48 ∧ 1 ≤ dp' ∧ dp' ≤ 20) ∧ ∀ (B : Nat) (w : World), Dec w B x nd dp ng tr →
      Calls Tryz.prog 154 #[.pointer (some ⟨B, 0, none⟩), .int .u64 v] w fun en w' => en = .returned (.tuple #[]) ∧ Kept [B] w w' ∧ Dec w' B x' nd' dp' ng tr := by
  obtain ⟨t1, hT1, hI1, hn1⟩ := Tr.ends (f := a1F) (fun s => s.1) (A1 v) (fun s t hs e => A1.go hv2 hs e) _ (v, 0, fun _ => 0) (Nat.le_refl _) ⟨by simp, by simp, fun i hi => by dsimp only at hi; omega, fun h => by dsimp only at h; omega⟩
  have ht1 : t1.1 = 0 := by
    unfold a1F at hn1
    split at hn1
    · cases hn1
    · omega
  obtain ⟨hn1, hy1⟩ := hI1.u0 ht1
  have hn20 := hI1.n20
  have hdy := hI1.dg
  obtain ⟨t2, hT2, hI2, hn2⟩ := Tr.ends (f := a2F t1.2.2 t1.2.1) (fun s => t1.2.1 - s.1) (A2 t1.2.2 t1.2.1) (fun s t hs e => A2.go hs e) _ (0, x) (Nat.le_refl _) ⟨by simp, fun i hi => by dsimp only at hi; omega⟩
  have ht2 : t2.1 = t1.2.1 := by
    have := hI2.c
    unfold a2F at hn2
    split at hn2
    · cases hn2
    · omega
  have hzd : Dg t2.2 t1.2.1 := fun i hi => by rw [hI2.z i (by omega)]; exact hdy _ (by omega)
  have hz0 : t2.2 0 ≠ 48 := by rw [hI2.z 0 (by omega)]; simpa using hy1
  obtain ⟨nd', ⟨hnd', hge⟩, hTM⟩ := dtrimF t2.2 t1.2.1 t1.2.1 ng tr (by omega)
  have hge1 := hge hn1 hz0
  have hz : zdp nd' (t1.2.1 : Int) = t1.2.1 := zdp_pos hge1
  refine ⟨t2.2, nd', t1.2.1, ⟨fun i hi => hzd i (by omega), hge1, by omega, hz0, by omega, by omega⟩, fun B w hD => ?_⟩
  obtain ⟨u1, n, y⟩ := t1
  dsimp only at ht1 hn1 hy1 hn20 hdy hT2 hI2 ht2 hzd hTM hz hnd' ⊢
  subst ht1
  have HT1 := Lib.hid hT1; have HT2 := Lib.hid hT2; have HTM := Lib.hid hTM; have HZ := Lib.hid hz; have HT2N := Lib.hid ht2
  clear hT1 hT2 hTM hz hI1 hI2 hn2 hzd hz0 hge hy1 ht2
  have hlt := hD.lt
  go_enter Tryz.func154, Tryz.ntmps154
  go_wp2_with fail
  have D1 := hD.same (heap_lt (o := .cells #[.int .u8 0, .int .u8 0, .int .u8 0, .int .u8 0, .int .u8 0, .int .u8 0, .int .u8 0, .int .u8 0, .int .u8 0, .int .u8 0, .int .u8 0, .int .u8 0, .int .u8 0, .int .u8 0, .int .u8 0, .int .u8 0, .int .u8 0, .int .u8 0, .int .u8 0, .int .u8 0, .int .u8 0, .int .u8 0, .int .u8 0, .int .u8 0] 156) hlt)
  have B1 := bt24 w
  have K1 := (Kept.refl [B] w).alloc (.cells #[.int .u8 0, .int .u8 0, .int .u8 0, .int .u8 0, .int .u8 0, .int .u8 0, .int .u8 0, .int .u8 0, .int .u8 0, .int .u8 0, .int .u8 0, .int .u8 0, .int .u8 0, .int .u8 0, .int .u8 0, .int .u8 0, .int .u8 0, .int .u8 0, .int .u8 0, .int .u8 0, .int .u8 0, .int .u8 0, .int .u8 0, .int .u8 0] 156)
  have hC : B ≠ w.heap.size := by omega
  have hC2 : w.heap.size ≤ w.heap.size := by omega
  generalize w.alloc (.cells #[.int .u8 0, .int .u8 0, .int .u8 0, .int .u8 0, .int .u8 0, .int .u8 0, .int .u8 0, .int .u8 0, .int .u8 0, .int .u8 0, .int .u8 0, .int .u8 0, .int .u8 0, .int .u8 0, .int .u8 0, .int .u8 0, .int .u8 0, .int .u8 0, .int .u8 0, .int .u8 0, .int .u8 0, .int .u8 0, .int .u8 0, .int .u8 0] 156) = w1 at D1 B1 K1 ⊢
  generalize hCC : w.heap.size = C at B1 hC hC2 ⊢
  go_loopw [1, 5] (fun vv vn wr => ∃ (u q : Nat) (z : Nat → Nat), vv = .int .u64 u ∧ vn = .int .i64 q ∧ Dec wr B x nd dp ng tr ∧ Bt wr C z 24 156 ∧ Kept [B] w wr ∧ A1 v (u, q, z) ∧ Tr a1F (u, q, z) (0, n, y)) (fun vv _ _ => (intOf vv).toNat)
  case atStart => exact ⟨v, 0, _, rfl, rfl, D1, B1, K1, ⟨by simp, by simp, fun i hi => by dsimp only at hi; omega, fun h => by dsimp only at h; omega⟩, HT1.out⟩
  case round =>
    clear D1 B1 K1
    obtain ⟨u, q, z, rfl, rfl, hDr, hBr, hKr, hI, hT⟩ := hrel
    have HI := Lib.hid hI; have HT := Lib.hid hT; clear hI hT
    have hq20 : q ≤ 20 := HI.out.n20
    by_cases hu : 0 < u
    · have hq : q < 20 := HI.out.lt hv2 hu
      have hule : u ≤ v := Nat.le_trans (Nat.le_mul_of_pos_right u (Nat.pow_pos (by decide))) HI.out.un
      have hst : a1F (u, q, z) = some (u / 10, q + 1, upd z q (u % 10 + 48)) := if_pos hu
      have HI2 := Lib.hid (HI.out.go hv2 hst).1
      have HT2 := Lib.hid (HT.out.next hst)
      clear hst
      have hfB := hBr.free
      have cB := hBr.dig q (by omega)
      go_wp2_with fail
      have ec : ((u : Int) - 10 * ((u : Int) / 10) + 48) = ((u % 10 + 48 : Nat) : Int) := by omega
      rw [ec]
      exact ⟨⟨u / 10, q + 1, upd z q (u % 10 + 48), rfl, rfl, hDr.same (heap_set (by exact hC)), hBr.setD (by omega) _, hKr.setCell (.inl (by rw [hCC]; exact Nat.le_refl _)) _, HI2.out, HT2.out⟩, by simp [intOf]; omega⟩
    · have hte := HT.out.last (show a1F (u, q, z) = none from if_neg hu)
      obtain ⟨e1, e2⟩ := Prod.mk.inj hte
      obtain ⟨e2, e3⟩ := Prod.mk.inj e2
      subst e1 e2 e3
      clear hte
      have hf := hDr.free
      have cN := hDr.n
      go_wp2_with fail
      have D2 := hDr.setN 0
      have B2 := hBr.same (heap_set (w := wr) (p := ⟨B, 800, none⟩) (u := .int .i64 ((0 : Nat) : Int)) (fun e => hC e.symm))
      have K2 := hKr.set1 800 (.int .i64 ((0 : Nat) : Int))
      go_loopw [5] (fun vn wz => ∃ (c : Nat) (z : Nat → Nat), c ≤ n ∧ vn = .int .i64 ((n : Int) - 1 - (c : Int)) ∧ Dec wz B z c dp ng tr ∧ Bt wz C y 24 156 ∧ Kept [B] w wz ∧ Tr (a2F y n) (c, z) t2) (fun vn _ => (intOf vn + 1).toNat)
      case atStart => exact ⟨0, x, by omega, congrArg (Value.int .i64) (by omega), D2, B2, K2, HT2.out⟩
      case round =>
        clear D2 B2 K2 hDr hBr hKr hf cN
        obtain ⟨c, z, hc, rfl, hDr, hBr, hKr, hT⟩ := hrel
        have HT := Lib.hid hT; clear hT
        have hf := hDr.free
        have cN := hDr.n
        have cP := hDr.p
        by_cases hlt : c < n
        · have cD := hDr.dig c (by omega)
          have cB := hBr.dig (n - 1 - c) (by omega)
          have ec : ((n : Int) - 1 - (c : Int)).toNat = n - 1 - c := by omega
          have cB' : wr.cell? ⟨C, ((n : Int) - 1 - (c : Int)).toNat, none⟩ = some (.int .u8 (y (n - 1 - c) : Nat)) := by rw [ec]; exact cB
          have hst : a2F y n (c, z) = some (c + 1, upd z c (y (n - 1 - c))) := if_pos hlt
          have HT3 := Lib.hid (HT.out.next hst)
          clear hst
          go_wp2_with fail
          go_region
          go_wp2_with fail
          have D3 := ((hDr.setD (i := c) (by omega) (y (n - 1 - c))).setN (c + 1)).drew
          have B3 := (hBr.same (heap_set (w := wr) (p := ⟨B, c, none⟩) (u := .int .u8 (y (n - 1 - c) : Nat)) (fun e => hC e.symm)))
          have B4 := (B3.same (heap_set (p := ⟨B, 800, none⟩) (u := .int .i64 ((c + 1 : Nat) : Int)) (fun e => hC e.symm)))
          have K3 := ((hKr.set1 c (.int .u8 (y (n - 1 - c) : Nat))).set1 800 (.int .i64 ((c + 1 : Nat) : Int))).drew
          exact ⟨⟨c + 1, upd z c (y (n - 1 - c)), by omega, congrArg (Value.int .i64) (by omega), D3, B4.same rfl, K3, HT3.out⟩, by simp [intOf]; omega⟩
        · obtain rfl : c = n := by omega
          have hte := HT.out.last (show a2F y c (c, z) = none from if_neg hlt)
          subst hte
          go_wp2_with fail
          refine (HTM.out _ _ (hDr.setP c)).mono ?_
          rintro en w' ⟨rfl, hKt, hDt⟩
          go_wp2_with fail
          go_end0
          exact ⟨rfl, Kept.trans (hKr.set1 _ _) hKt (fun _ h => h) (fun _ h _ => h), by have := HZ.out; rw [← this]; exact hDt⟩
end Go.Proofs.YtfkecmlmnhbmoaaGreatDoor
namespace Go.Proofs.YtfkecmlmnhbmoaaGreatDoor
open Go.RowKit Go.Sort
set_option maxRecDepth 100000 in
set_option maxHeartbeats 2000000 in
theorem dshouldF (x : Nat → Nat) (n : Nat) (dp : Int) (ng tr : Bool) (nd : Int) (h8 : n ≤ 800) (hd : Dg x n) : ∃ b : Bool, ∀ (B : Nat) (w : World), Dec w B x n dp ng tr →
    Calls Tryz.prog 208 #[.pointer (some ⟨B, 0, none⟩), .int .i64 nd] w fun en w' => en = .returned (.bool b) ∧ ∃ k, w' = w.drewN k := by
  by_cases h1 : nd < 0
  · refine ⟨false, fun B w hD => ?_⟩
    have cN := hD.n
    go_enter Tryz.func208, Tryz.ntmps208
    go_wp2_with fail
    go_ret
    exact ⟨rfl, 0, rfl⟩
  · obtain ⟨m, rfl⟩ : ∃ m : Nat, nd = m := ⟨nd.toNat, by omega⟩
    by_cases h2 : n ≤ m
    · refine ⟨false, fun B w hD => ?_⟩
      have cN := hD.n
      go_enter Tryz.func208, Tryz.ntmps208
      go_wp2_with fail
      go_ret
      exact ⟨rfl, 0, rfl⟩
    · have hx := hd m (by omega)
      by_cases h3 : 0 < m
      · obtain ⟨j, rfl⟩ : ∃ j, m = j + 1 := ⟨m - 1, by omega⟩
        have hxj := hd j (by omega)
        by_cases h53 : x (j + 1) = 53
        · have z53 : (((x (j + 1) : Nat) : Int) == 53) = true := by rw [h53]; rfl
          by_cases hl : j + 2 = n
          · have zl : (((j : Nat) : Int) + 1 + 1 == (n : Int)) = true := beq_iff_eq.2 (by omega)
            have HL := Lib.hid hl; clear hl
            cases tr
            · skip
              refine ⟨(decide ((x j - 48) % 2 ≠ 0)), fun B w hD => ?_⟩
              have cN := hD.n
              have cT := hD.t
              have cM := hD.dig (j + 1) (by omega)
              (have cJ := hD.dig j (by omega))
              go_enter Tryz.func208, Tryz.ntmps208
              go_wp2_with fail
              go_ret
              refine ⟨congrArg (fun b => Ending.returned (.bool b)) ?_, 0, rfl⟩
              first | rfl | (simp; done) | (simp; omega) | (rw [Bool.eq_iff_iff]; simp; omega)
            · skip
              refine ⟨true, fun B w hD => ?_⟩
              have cN := hD.n
              have cT := hD.t
              have cM := hD.dig (j + 1) (by omega)
              (have cJ := hD.dig j (by omega))
              go_enter Tryz.func208, Tryz.ntmps208
              go_wp2_with fail
              go_ret
              refine ⟨congrArg (fun b => Ending.returned (.bool b)) ?_, 0, rfl⟩
              first | rfl | (simp; done) | (simp; omega) | (rw [Bool.eq_iff_iff]; simp; omega)
          · have zl : (((j : Nat) : Int) + 1 + 1 == (n : Int)) = false := beq_eq_false_iff_ne.2 (by omega)
            clear hl
            refine ⟨(decide (53 ≤ x (j + 1))), fun B w hD => ?_⟩
            have cN := hD.n
            have cT := hD.t
            have cM := hD.dig (j + 1) (by omega)
            (have cJ := hD.dig j (by omega))
            go_enter Tryz.func208, Tryz.ntmps208
            go_wp2_with fail
            go_ret
            refine ⟨congrArg (fun b => Ending.returned (.bool b)) ?_, 0, rfl⟩
            first | rfl | (simp; done) | (simp; omega) | (rw [Bool.eq_iff_iff]; simp; omega)
        · have z53 : (((x (j + 1) : Nat) : Int) == 53) = false := beq_eq_false_iff_ne.2 (by omega)
          clear h53
          refine ⟨(decide (53 ≤ x (j + 1))), fun B w hD => ?_⟩
          have cN := hD.n
          have cT := hD.t
          have cM := hD.dig (j + 1) (by omega)
          (have cJ := hD.dig j (by omega))
          go_enter Tryz.func208, Tryz.ntmps208
          go_wp2_with fail
          go_ret
          refine ⟨congrArg (fun b => Ending.returned (.bool b)) ?_, 0, rfl⟩
          first | rfl | (simp; done) | (simp; omega) | (rw [Bool.eq_iff_iff]; simp; omega)
      · obtain rfl : m = 0 := by omega
        by_cases h53 : x 0 = 53
        · have z53 : (((x 0 : Nat) : Int) == 53) = true := by rw [h53]; rfl
          have HH := Lib.hid h53; clear h53
          by_cases hl : 1 = n
          · have zl : ((1 : Int) == (n : Int)) = true := beq_iff_eq.2 (by omega)
            have HL := Lib.hid hl; clear hl
            cases tr
            · skip
              refine ⟨false, fun B w hD => ?_⟩
              have cN := hD.n
              have cT := hD.t
              have cM := hD.dig 0 (by omega)
              skip
              go_enter Tryz.func208, Tryz.ntmps208
              go_wp2_with fail
              go_ret
              refine ⟨congrArg (fun b => Ending.returned (.bool b)) ?_, 0, rfl⟩
              first | rfl | (simp; done) | (simp; omega) | (rw [Bool.eq_iff_iff]; simp; omega)
            · skip
              refine ⟨true, fun B w hD => ?_⟩
              have cN := hD.n
              have cT := hD.t
              have cM := hD.dig 0 (by omega)
              skip
              go_enter Tryz.func208, Tryz.ntmps208
              go_wp2_with fail
              go_ret
              refine ⟨congrArg (fun b => Ending.returned (.bool b)) ?_, 0, rfl⟩
              first | rfl | (simp; done) | (simp; omega) | (rw [Bool.eq_iff_iff]; simp; omega)
          · have zl : ((1 : Int) == (n : Int)) = false := beq_eq_false_iff_ne.2 (by omega)
            clear hl
            refine ⟨(decide (53 ≤ x 0)), fun B w hD => ?_⟩
            have cN := hD.n
            have cT := hD.t
            have cM := hD.dig 0 (by omega)
            skip
            go_enter Tryz.func208, Tryz.ntmps208
            go_wp2_with fail
            go_ret
            refine ⟨congrArg (fun b => Ending.returned (.bool b)) ?_, 0, rfl⟩
            first | rfl | (simp; done) | (simp; omega) | (rw [Bool.eq_iff_iff]; simp; omega)
        · have z53 : (((x 0 : Nat) : Int) == 53) = false := beq_eq_false_iff_ne.2 (by omega)
          clear h53
          refine ⟨(decide (53 ≤ x 0)), fun B w hD => ?_⟩
          have cN := hD.n
          have cT := hD.t
          have cM := hD.dig 0 (by omega)
          skip
          go_enter Tryz.func208, Tryz.ntmps208
          go_wp2_with fail
          go_ret
          refine ⟨congrArg (fun b => Ending.returned (.bool b)) ?_, 0, rfl⟩
          first | rfl | (simp; done) | (simp; omega) | (rw [Bool.eq_iff_iff]; simp; omega)
set_option maxRecDepth 100000 in
set_option maxHeartbeats 2000000 in
theorem drounddownF (x : Nat → Nat) (n : Nat) (dp : Int) (ng tr : Bool) (nd : Nat) (h8 : n ≤ 800) (h : nd < n) : ∃ (n' : Nat) (dp' : Int), (n' ≤ n ∧ (dp' = dp ∨ dp' = 0)) ∧ ∀ (B : Nat) (w : World), Dec w B x n dp ng tr →
    Calls Tryz.prog 210 #[.pointer (some ⟨B, 0, none⟩), .int .i64 nd] w fun en w' => en = .returned (.tuple #[]) ∧ Kept [B] w w' ∧ Dec w' B x n' dp' ng tr := by
  obtain ⟨nd', ⟨hnd', _⟩, hTM⟩ := dtrimF x nd dp ng tr (by omega)
  refine ⟨nd', zdp nd' dp, ⟨by omega, ?_⟩, fun B w hD => ?_⟩
  · unfold zdp; split
    · exact .inr rfl
    · exact .inl rfl
  have HTM := Lib.hid hTM; clear hTM
  have cN := hD.n
  have hf := hD.free
  go_enter Tryz.func210, Tryz.ntmps210
  go_wp2_with fail
  refine (HTM.out _ _ (hD.setN nd)).mono ?_
  rintro en w' ⟨rfl, hKt, hDt⟩
  go_wp2_with fail
  go_end0
  exact ⟨rfl, Kept.trans ((Kept.refl _ _).set1 _ _) hKt (fun _ h => h) (fun _ h _ => h), hDt⟩
def upF (x : Nat → Nat) (i : Nat) : Option Nat := if 0 < i then (if x (i - 1) < 57 then none else some (i - 1)) else none
theorem upF_no {x : Nat → Nat} {j : Nat} (h : x j < 57) : upF x (j + 1) = none := by unfold upF; rw [if_pos (by omega), Nat.add_sub_cancel, if_pos h]
theorem upF_go {x : Nat → Nat} {j : Nat} (h : ¬ x j < 57) : upF x (j + 1) = some j := by unfold upF; rw [if_pos (by omega), Nat.add_sub_cancel, if_neg h]
set_option maxRecDepth 100000 in
set_option maxHeartbeats 2000000 in
theorem droundupF (x : Nat → Nat) (n : Nat) (dp : Int) (ng tr : Bool) (nd : Nat) (h8 : n ≤ 800) (hd : Dg x n) (h : nd < n) (hp1 : -1000000000 ≤ dp) (hp2 : dp ≤ 1000000000) :
    ∃ (x' : Nat → Nat) (n' : Nat) (dp' : Int), (Dg x' n' ∧ n' ≤ n ∧ (dp' = dp ∨ dp' = dp + 1)) ∧ ∀ (B : Nat) (w : World), Dec w B x n dp ng tr →
      Calls Tryz.prog 209 #[.pointer (some ⟨B, 0, none⟩), .int .i64 nd] w fun en w' => en = .returned (.tuple #[]) ∧ Kept [B] w w' ∧ Dec w' B x' n' dp' ng tr := by
  obtain ⟨t, hT, ht, hn⟩ := Tr.ends (f := upF x) (fun i => i) (fun i => i ≤ nd) (fun s t hs e => by
    unfold upF at e
    split at e
    · split at e
      · cases e
      · cases e; omega
    · cases e) _ nd (Nat.le_refl _) (Nat.le_refl _)
  have HT0 := Lib.hid hT; clear hT
  by_cases h0 : 0 < t
  · obtain ⟨j0, rfl⟩ : ∃ j, t = j + 1 := ⟨t - 1, by omega⟩
    have h9 : x j0 < 57 := by
      by_cases h9 : x j0 < 57
      · exact h9
      · rw [upF_go h9] at hn; cases hn
    have hj0 := hd j0 (by omega)
    refine ⟨upd x j0 (x j0 + 1), j0 + 1, dp, ⟨Dg.snoc (fun a ha => hd a (by omega)) (by omega) (by omega), by omega, .inl rfl⟩, fun B w hD => ?_⟩
    have cN := hD.n
    have hf := hD.free
    go_enter Tryz.func209, Tryz.ntmps209
    go_wp2_with fail
    go_loop [4] (fun vi => ∃ i : Nat, i ≤ nd ∧ vi = .int .i64 ((i : Int) - 1) ∧ Tr (upF x) i (j0 + 1)) (fun vi => (intOf vi + 1).toNat)
    case atStart => exact ⟨nd, by omega, rfl, HT0.out⟩
    case round =>
      obtain ⟨i, hi, rfl, hT⟩ := hrel
      have HT := Lib.hid hT; clear hT
      by_cases h0 : 0 < i
      · obtain ⟨j, rfl⟩ : ∃ j, i = j + 1 := ⟨i - 1, by omega⟩
        have cJ := hD.dig j (by omega)
        have hxj := hd j (by omega)
        by_cases h9' : x j < 57
        · have hte := HT.out.last (upF_no h9')
          obtain rfl : j0 = j := by omega
          go_wp2_with fail
          go_region
          go_wp2_with fail
          refine bodyPost_ret (results_none rfl _ _ _) rfl ?_
          have D3 := ((hD.setD (i := j0) (by omega) (x j0 + 1)).setN (j0 + 1)).drew
          have K3 := (((Kept.refl [B] w).set1 j0 (.int .u8 ((x j0 + 1 : Nat) : Int))).set1 800 (.int .i64 ((j0 + 1 : Nat) : Int))).drew
          exact ⟨rfl, K3, D3⟩
        · have HT2 := Lib.hid (HT.out.next (upF_go h9'))
          go_wp2_with fail
          exact ⟨⟨j, by omega, congrArg (Value.int .i64) (by omega), HT2.out⟩, by simp [intOf]⟩
      · have hte := HT.out.last (show upF x i = none by unfold upF; rw [if_neg h0])
        omega
  · obtain rfl : t = 0 := by omega
    refine ⟨upd x 0 49, 1, dp + 1, ⟨Dg.snoc (fun a ha => by omega) (by omega) (by omega), by omega, .inr rfl⟩, fun B w hD => ?_⟩
    have cN := hD.n
    have hf := hD.free
    clear h0
    go_enter Tryz.func209, Tryz.ntmps209
    go_wp2_with fail
    go_loop [4] (fun vi => ∃ i : Nat, i ≤ nd ∧ vi = .int .i64 ((i : Int) - 1) ∧ Tr (upF x) i 0) (fun vi => (intOf vi + 1).toNat)
    case atStart => exact ⟨nd, by omega, rfl, HT0.out⟩
    case round =>
      obtain ⟨i, hi, rfl, hT⟩ := hrel
      have HT := Lib.hid hT; clear hT
      by_cases h0 : 0 < i
      · obtain ⟨j, rfl⟩ : ∃ j, i = j + 1 := ⟨i - 1, by omega⟩
        have cJ := hD.dig j (by omega)
        have hxj := hd j (by omega)
        by_cases h9' : x j < 57
        · have hte := HT.out.last (upF_no h9')
          omega
        · have HT2 := Lib.hid (HT.out.next (upF_go h9'))
          go_wp2_with fail
          exact ⟨⟨j, by omega, congrArg (Value.int .i64) (by omega), HT2.out⟩, by simp [intOf]⟩
      · obtain rfl : i = 0 := by omega
        have cP := hD.p
        have c0 := hD.dig 0 (by omega)
        have hoff := cell_set_off
        go_wp2_with fail
        go_end0
        have D3 := ((hD.setD (i := 0) (by omega) 49).setN 1).setP (dp + 1)
        have K3 := (((Kept.refl [B] w).set1 0 (.int .u8 ((49 : Nat) : Int))).set1 800 (.int .i64 ((1 : Nat) : Int))).set1 801 (.int .i64 (dp + 1))
        exact ⟨rfl, K3, D3⟩
set_option maxRecDepth 100000 in
set_option maxHeartbeats 2000000 in
theorem droundF (x : Nat → Nat) (n : Nat) (dp : Int) (ng tr : Bool) (nd : Int) (h8 : n ≤ 800) (hd : Dg x n) (hp1 : -1000000000 ≤ dp) (hp2 : dp ≤ 1000000000) :
    ∃ (x' : Nat → Nat) (n' : Nat) (dp' : Int), (Dg x' n' ∧ n' ≤ n ∧ (dp' = dp ∨ dp' = dp + 1 ∨ dp' = 0)) ∧ ∀ (B : Nat) (w : World), Dec w B x n dp ng tr →
      Calls Tryz.prog 156 #[.pointer (some ⟨B, 0, none⟩), .int .i64 nd] w fun en w' => en = .returned (.tuple #[]) ∧ Kept [B] w w' ∧ Dec w' B x' n' dp' ng tr := by
  by_cases h1 : nd < 0
  · refine ⟨x, n, dp, ⟨hd, by omega, .inl rfl⟩, fun B w hD => ?_⟩
    have cN := hD.n
    go_enter Tryz.func156, Tryz.ntmps156
    go_wp2_with fail
    refine bodyPost_ret (results_none rfl _ _ _) rfl ?_
    exact ⟨rfl, Kept.refl _ _, hD⟩
  · obtain ⟨m, rfl⟩ : ∃ m : Nat, nd = m := ⟨nd.toNat, by omega⟩
    by_cases h2 : n ≤ m
    · refine ⟨x, n, dp, ⟨hd, by omega, .inl rfl⟩, fun B w hD => ?_⟩
      have cN := hD.n
      go_enter Tryz.func156, Tryz.ntmps156
      go_wp2_with fail
      refine bodyPost_ret (results_none rfl _ _ _) rfl ?_
      exact ⟨rfl, Kept.refl _ _, hD⟩
    · obtain ⟨b, hS⟩ := dshouldF x n dp ng tr m h8 hd
      have HS := Lib.hid hS; clear hS
      cases b
      · obtain ⟨n', dp', ⟨hn', hdp'⟩, hR⟩ := drounddownF x n dp ng tr m h8 (by omega)
        have HR := Lib.hid hR; clear hR
        refine ⟨x, n', dp', ⟨fun i hi => hd i (by omega), hn', by rcases hdp' with h | h; exact .inl h; exact .inr (.inr h)⟩, fun B w hD => ?_⟩
        have cN := hD.n
        clear hdp'
        go_enter Tryz.func156, Tryz.ntmps156
        go_wp2_with fail
        refine (HS.out _ _ hD).mono ?_
        rintro en w' ⟨rfl, k, rfl⟩
        have D2 := hD.drewN k
        have K2 := (Kept.refl [B] w).drewN k
        generalize w.drewN k = w2 at D2 K2
        go_wp2_with fail
        refine (HR.out _ _ D2).mono ?_
        rintro en w3 ⟨rfl, K3, D3⟩
        go_wp2_with fail
        go_end0
        exact ⟨rfl, Kept.trans K2 K3 (fun _ h => h) (fun _ h _ => h), D3⟩
      · obtain ⟨x', n', dp', ⟨hdx, hn', hdp'⟩, hR⟩ := droundupF x n dp ng tr m h8 hd (by omega) hp1 hp2
        have HR := Lib.hid hR; clear hR
        refine ⟨x', n', dp', ⟨hdx, hn', by rcases hdp' with h | h; exact .inl h; exact .inr (.inl h)⟩, fun B w hD => ?_⟩
        have cN := hD.n
        clear hdp'
        go_enter Tryz.func156, Tryz.ntmps156
        go_wp2_with fail
        refine (HS.out _ _ hD).mono ?_
        rintro en w' ⟨rfl, k, rfl⟩
        have D2 := hD.drewN k
        have K2 := (Kept.refl [B] w).drewN k
        generalize w.drewN k = w2 at D2 K2
        go_wp2_with fail
        refine (HR.out _ _ D2).mono ?_
        rintro en w3 ⟨rfl, K3, D3⟩
        go_wp2_with fail
        go_end0
        exact ⟨rfl, Kept.trans K2 K3 (fun _ h => h) (fun _ h _ => h), D3⟩
end Go.Proofs.YtfkecmlmnhbmoaaGreatDoor
namespace Go.Proofs.YtfkecmlmnhbmoaaGreatDoor
open Go.RowKit
/-- What is written at a step: the carry and a digit shifted. -/
def lsS (x : Nat → Nat) (n k j : Nat) : Nat := num x (n + 1) % 10 ^ j * 2 ^ k / 10 ^ j + (x (n - j) - 48) * 2 ^ k
def l1F (x : Nat → Nat) (n k a : Nat) (s : Nat × (Nat → Nat) × Bool) : Option (Nat × (Nat → Nat) × Bool) :=
  if s.1 < n + 1 then (if n + a - s.1 < 800 then some (s.1 + 1, upd s.2.1 (n + a - s.1) (lsS x n k s.1 % 10 + 48), s.2.2) else some (s.1 + 1, s.2.1, s.2.2 || decide (lsS x n k s.1 % 10 ≠ 0))) else none
def l2F (NN n a : Nat) (s : Nat × (Nat → Nat)) : Option (Nat × (Nat → Nat)) :=
  if 0 < NN / 10 ^ (n + 1 + s.1) then some (s.1 + 1, upd s.2 (a - s.1 - 1) (NN / 10 ^ (n + 1 + s.1) % 10 + 48)) else none
structure L1 (x : Nat → Nat) (n k a : Nat) (s : Nat × (Nat → Nat) × Bool) : Prop where
  j : s.1 ≤ n + 1
  y : ∀ i, i < n + 1 - s.1 → s.2.1 i = x i
  w : ∀ i, n + 1 + a - s.1 ≤ i → i < n + 1 + a → i < 800 → 48 ≤ s.2.1 i ∧ s.2.1 i ≤ 57
  z : a = 0 → s.1 = n + 1 → 48 + (x 0 - 48) * 2 ^ k ≤ s.2.1 0
theorem L1.go {x : Nat → Nat} {n k a : Nat} (hd : Dg x (n + 1)) (h8 : n + 1 ≤ 800) (hhi : num x (n + 1) * 2 ^ k < 10 ^ (n + 1 + a)) {s t : Nat × (Nat → Nat) × Bool} (h : L1 x n k a s) (e : l1F x n k a s = some t) : L1 x n k a t ∧ n + 1 - t.1 < n + 1 - s.1 := by
  obtain ⟨a1, a2, a3, a4⟩ := h
  unfold l1F at e
  split at e
  · rename_i hj
    split at e
    · rename_i hw8
      cases e
      refine ⟨⟨by dsimp only; omega, fun i hi => ?_, fun i h2 h3 h4 => ?_, fun h2 h3 => ?_⟩, by dsimp only; omega⟩
      · dsimp only at hi ⊢
        rw [upd_ne _ _ (by omega)]
        exact a2 i (by omega)
      · dsimp only at h2 h3 ⊢
        by_cases e : i = n + a - s.1
        · subst e; rw [upd_at]; omega
        · rw [upd_ne _ _ e]; exact a3 i (by omega) h3 h4
      · dsimp only at h3 ⊢
        have e0 : s.1 = n := by omega
        have hstep := carry_step (num x (n + 1)) (2 ^ k) s.1
        rw [num_digit hd hj, show n + 1 - 1 - s.1 = n - s.1 by omega] at hstep
        have hzero : num x (n + 1) % 10 ^ (s.1 + 1) * 2 ^ k / 10 ^ (s.1 + 1) = 0 := by
          rw [e0, Nat.mod_eq_of_lt (num_lt hd)]
          rw [h2, Nat.add_zero] at hhi
          exact Nat.div_eq_of_lt hhi
        rw [hzero] at hstep
        rw [show n + a - s.1 = 0 by omega, upd_at]
        have hs : lsS x n k s.1 / 10 = 0 := hstep
        have hx : (x (n - s.1) - 48) * 2 ^ k ≤ lsS x n k s.1 := Nat.le_add_left _ _
        rw [show n - s.1 = 0 by omega] at hx
        omega
    · cases e
      exact ⟨⟨by dsimp only; omega, fun i hi => a2 i (by dsimp only at hi; omega), fun i h2 h3 h4 => a3 i (by dsimp only at h2; omega) h3 h4, fun h2 h3 => by dsimp only at h3; omega⟩, by dsimp only; omega⟩
  · cases e
structure L2 (x : Nat → Nat) (NN n k a : Nat) (s : Nat × (Nat → Nat)) : Prop where
  t : s.1 ≤ a
  w : ∀ i, a - s.1 ≤ i → i < n + 1 + a → i < 800 → 48 ≤ s.2 i ∧ s.2 i ≤ 57
  z : a = 0 → 48 + (x 0 - 48) * 2 ^ k ≤ s.2 0
  z1 : 1 ≤ a → s.1 = a → s.2 0 ≠ 48
theorem NN_zero {NN n a t : Nat} (hhi : NN < 10 ^ (n + 1 + a)) (h : t = a) : NN / 10 ^ (n + 1 + t) = 0 := by subst h; exact Nat.div_eq_of_lt hhi
theorem NN_full {NN n a t : Nat} (hlo : 10 ^ (n + a) ≤ NN) (h : NN / 10 ^ (n + 1 + t) = 0) : a ≤ t := by
  have h2 : NN < 10 ^ (n + 1 + t) := by
    rcases Nat.lt_or_ge NN (10 ^ (n + 1 + t)) with h3 | h3
    · exact h3
    · have := (Nat.one_le_div_iff (p10 _)).2 h3; omega
  have h3 := (Nat.pow_lt_pow_iff_right (show 1 < 10 by decide)).1 (Nat.lt_of_le_of_lt hlo h2)
  omega
theorem NN_step (NN n t : Nat) : NN / 10 ^ (n + 1 + t) / 10 = NN / 10 ^ (n + 1 + (t + 1)) := by rw [Nat.div_div_eq_div_mul, ← Nat.pow_succ]; rfl
theorem L2.go {x : Nat → Nat} {NN n k a : Nat} (_ha : a ≤ 19) (hhi : NN < 10 ^ (n + 1 + a)) {s t : Nat × (Nat → Nat)} (h : L2 x NN n k a s) (e : l2F NN n a s = some t) : L2 x NN n k a t ∧ a - t.1 < a - s.1 := by
  obtain ⟨a1, a2, a3, a4⟩ := h
  unfold l2F at e
  split at e
  · rename_i hs0
    have htl : s.1 < a := by
      rcases Nat.lt_or_ge s.1 a with h | h
      · exact h
      · have := NN_zero (n := n) hhi (show s.1 = a by omega); omega
    cases e
    refine ⟨⟨by dsimp only; omega, fun i h2 h3 h4 => ?_, fun h2 => by omega, fun h2 h3 => ?_⟩, by dsimp only; omega⟩
    · dsimp only at h2 ⊢
      by_cases e : i = a - s.1 - 1
      · subst e; rw [upd_at]; omega
      · rw [upd_ne _ _ e]; exact a2 i (by omega) h3 h4
    · dsimp only at h3 ⊢
      rw [show a - s.1 - 1 = 0 by omega, upd_at]
      have := NN_zero (n := n) hhi h3
      rw [← NN_step] at this
      omega
  · cases e
theorem ls_ends (x : Nat → Nat) (n k a : Nat) (tr : Bool) (hd : Dg x (n + 1)) (h8 : n + 1 ≤ 800) (h0 : x 0 ≠ 48) (ha : a ≤ 19) (hlo : 10 ^ (n + a) ≤ num x (n + 1) * 2 ^ k) (hhi : num x (n + 1) * 2 ^ k < 10 ^ (n + 1 + a)) :
    ∃ t1 : Nat × (Nat → Nat) × Bool, Tr (l1F x n k a) (0, x, tr) t1 ∧ ∃ t2 : Nat × (Nat → Nat), Tr (l2F (num x (n + 1) * 2 ^ k) n a) (0, t1.2.1) t2 ∧ t2.1 = a ∧ (∀ i, i < n + 1 + a → i < 800 → 48 ≤ t2.2 i ∧ t2.2 i ≤ 57) ∧ t2.2 0 ≠ 48 ∧ (a = 0 → 48 + (x 0 - 48) * 2 ^ k ≤ t2.2 0) := by
  obtain ⟨t1, hT, hI, hn⟩ := Tr.ends (f := l1F x n k a) (fun s => n + 1 - s.1) (L1 x n k a) (fun s t hs e => L1.go hd h8 hhi hs e) _ (0, x, tr) (Nat.le_refl _) ⟨by simp, fun _ _ => rfl, fun i h2 h3 => by dsimp only at h2; omega, fun h2 h3 => by dsimp only at h3; omega⟩
  have ht1 : t1.1 = n + 1 := by
    have := hI.j
    unfold l1F at hn
    split at hn
    · split at hn <;> cases hn
    · omega
  obtain ⟨t2, hT2, hI2, hn2⟩ := Tr.ends (f := l2F (num x (n + 1) * 2 ^ k) n a) (fun s => a - s.1) (L2 x (num x (n + 1) * 2 ^ k) n k a) (fun s t hs e => L2.go ha hhi hs e) _ (0, t1.2.1) (Nat.le_refl _) ⟨by simp, fun i h2 h3 h4 => hI.w i (by dsimp only at h2; omega) h3 h4, fun h => hI.z h ht1, fun h2 h3 => by dsimp only at h3; omega⟩
  have hz : num x (n + 1) * 2 ^ k / 10 ^ (n + 1 + t2.1) = 0 := by
    unfold l2F at hn2
    split at hn2
    · cases hn2
    · rename_i h; exact Nat.eq_zero_of_not_pos h
  have hta : t2.1 = a := by have := NN_full hlo hz; have := hI2.t; omega
  refine ⟨t1, hT, t2, hT2, hta, fun i h2 h3 => hI2.w i (by omega) h2 h3, ?_, hI2.z⟩
  rcases Nat.eq_zero_or_pos a with h | h
  · have h2 := hI2.z h
    have h3 := hd 0 (by omega)
    have h4 : 1 ≤ (x 0 - 48) * 2 ^ k := Nat.mul_pos (by omega) (Nat.two_pow_pos k)
    omega
  · exact hI2.z1 h hta
end Go.Proofs.YtfkecmlmnhbmoaaGreatDoor
namespace Go.Proofs.YtfkecmlmnhbmoaaGreatDoor
open Go.RowKit
set_option maxRecDepth 100000 in
set_option maxHeartbeats 4000000 in
theorem lshiftF (x : Nat → Nat) (nd : Nat) (dp : Int) (ng tr : Bool) (k : Nat) (hd : Dg x nd) (h1 : 1 ≤ nd) (h8 : nd ≤ 800) (h0 : x 0 ≠ 48) (hk1 : 1 ≤ k) (hk2 : k ≤ 60) (hp1 : -1000000000 ≤ dp) (hp2 : dp ≤ 1000000000) :
    ∃ (x' : Nat → Nat) (nd' a : Nat) (tr' : Bool), (Dg x' nd' ∧ 1 ≤ nd' ∧ nd' ≤ 800 ∧ x' 0 ≠ 48 ∧ a ≤ 19 ∧ (a = 0 → 48 + (x 0 - 48) * 2 ^ k ≤ x' 0)) ∧
      ∀ (B N : Nat) (w : World), Cheat N w → N ≤ B → Dec w B x nd dp ng tr → Calls Tryz.prog 206 #[.pointer (some ⟨B, 0, none⟩), .int .u64 k] w fun en w' => en = .returned (.tuple #[]) ∧ Kept [B] w w' ∧ Dec w' B x' nd' (dp + (a : Nat)) ng tr' := by
  obtain ⟨n, rfl⟩ : ∃ n, nd = n + 1 := ⟨nd - 1, by omega⟩
  have hDlt := num_lt hd
  have hDge := num_ge h0 hd
  have hc60 : Lib.nDigits (5 ^ k) ≤ 100 := by
    obtain h | ⟨g1, g2, _⟩ := dlt_fin ⟨k, by omega⟩
    · dsimp only at h; omega
    · dsimp only at g1 g2; omega
  obtain ⟨b, hb⟩ : ∃ b, b = decide (num x (n + 1) * 10 ^ Lib.nDigits (5 ^ k) < 5 ^ k * 10 ^ (n + 1)) := ⟨_, rfl⟩
  obtain ⟨a, ha, ha19, hlo, hhi⟩ := adds (num x (n + 1)) k n b hk1 hk2 hDlt hDge (fun h => of_decide_eq_true (hb.symm.trans h)) (fun h => by have := of_decide_eq_false (hb.symm.trans h); omega)
  obtain ⟨t1, hT1, t2, hT2, ht2a, hdg, hx0, hz0⟩ := ls_ends x n k a tr hd h8 h0 ha19 hlo hhi
  obtain ⟨nn, hnn⟩ : ∃ nn, nn = min (n + 1 + a) 800 := ⟨_, rfl⟩
  obtain ⟨nd', ⟨hnd', hge⟩, hTM⟩ := dtrimF t2.2 nn (dp + (a : Nat)) ng t1.2.2 (by omega)
  have hge1 := hge (by omega) hx0
  have hz : zdp nd' (dp + (a : Nat)) = dp + (a : Nat) := zdp_pos hge1
  refine ⟨t2.2, nd', a, t1.2.2, ⟨fun i hi => hdg i (by omega) (by omega), hge1, by omega, hx0, ha19, hz0⟩, fun B N w hch hN hD => ?_⟩
  clear hdg hx0 hz0 hge hge1 hnd'
  have HT1 := Lib.hid hT1; have HT2 := Lib.hid hT2; have HTA := Lib.hid ht2a; have HTM := Lib.hid hTM; have HZ := Lib.hid hz; have HNN := Lib.hid hnn; clear hT1 hT2 ht2a hTM hz hnn
  obtain ⟨tb, to, tc, tN, tg, tt⟩ := hch
  obtain ⟨ct, cs⟩ := tt k (by omega)
  have hf := hD.free
  have cN := hD.n; have cP := hD.p
  have hpre : ∀ W : World, (∃ m, W = w.drewN m) → Calls Tryz.prog 234 #[.slice (some ⟨B, 0, none⟩) (n + 1) 800, .string ⟨(cut k).toArray⟩] W fun en w' => en = .returned (.bool (decide (num x (n + 1) * 10 ^ Lib.nDigits (5 ^ k) < 5 ^ k * 10 ^ (n + 1)))) ∧ ∃ m, w' = W.drewN m := fun W ⟨m, hm⟩ => by
    subst hm
    exact prefixlt' B x (n + 1) 800 (5 ^ k) _ _ _ (fun i hi => by rw [World.cell?_drewN]; exact hD.dig i (by omega)) h8 hd (cut_size k hk1) hc60 (cut_digit k hk1) (five_last k hk1) (Lib.lt_pow_nDigits _)
  rw [← hb] at hpre
  have HP := Lib.hid hpre; clear hpre hb tt
  have Hhi := Lib.hid hhi; have Hlo := Lib.hid hlo; have HDlt := Lib.hid hDlt; clear hhi hlo hDlt hDge hc60
  have c800 : ((n + 1 : Nat) : Int) ≤ 800 := by omega
  have hsl : ∀ W, (Instr.sliceAt 246 (.pointer (some ⟨B, 0, none⟩)) (some (.int .i64 0)) (some (.int .i64 ((n : Int) + 1))) none).run Tryz.prog W = .ok (.slice (some ⟨B, 0, none⟩) (n + 1) 800) W := fun W => by
    have hal : Tryz.prog.arrayLen 246 = 800 := by kernel_rfl
    rw [run_sliceAt_array_lh W 246 ⟨B, 0, none⟩ (by simp [Program.arrayLen, Program.elem, Tryz.underlying246]) .i64 .i64 0 ((n : Int) + 1) (by omega) (by omega) (by rw [hal]; omega)]
    go_simp
  go_enter Tryz.func206, Tryz.ntmps206
  go_wp2_with fail
  go_quiet ((go_at_call 234; exact Calls.quiet_of (HP.out _ ⟨_, rfl⟩)))
  have Dq := hD.drewN nq
  have Kq := (Kept.refl [B] w).drewN nq
  have cs0 := hf
  generalize w.drewN nq = w1 at Dq Kq ⊢
  clear hD cN cP ct cs tg hf cs0
  have cN := Dq.n
  have hP : 2 ^ k ≤ 1152921504606846976 := by
    have : 2 ^ k ≤ 2 ^ 60 := Nat.pow_le_pow_right (by decide) hk2
    exact this
  have hP0 : 0 < 2 ^ k := Nat.two_pow_pos k
  cases b
  case' false =>
    have ha1 : ((dlt k : Nat) : Int) = (a : Int) := by simpa using ha
    clear ha
    go_wp2_with fail
  case' true =>
    have ha1 : ((dlt k : Nat) : Int) - 1 = (a : Int) := by simpa using ha
    clear ha
    go_wp2_with fail
  all_goals
    clear cN
    go_loopw [5, 6, 7] (fun vr vw vn wr => ∃ (j : Nat) (y : Nat → Nat) (tr' : Bool), vr = .int .i64 ((n : Int) - j) ∧ vw = .int .i64 ((n : Int) + 1 + a - j) ∧ vn = .int .u64 (((num x (n + 1) % 10 ^ j) * 2 ^ k / 10 ^ j : Nat) : Int) ∧ Dec wr B y (n + 1) dp ng tr' ∧ Kept [B] w wr ∧ L1 x n k a (j, y, tr') ∧ Tr (l1F x n k a) (j, y, tr') t1) (fun vr _ _ _ => (intOf vr + 1).toNat)
    case atStart => exact ⟨0, x, tr, congrArg (Value.int .i64) (by omega), congrArg (Value.int .i64) (by omega), congrArg (Value.int .u64) (by simp [Nat.mod_one]), Dq, Kq, ⟨by simp, fun _ _ => rfl, fun i h2 h3 => by dsimp only at h2; omega, fun h2 h3 => by dsimp only at h3; omega⟩, HT1.out⟩
    case round =>
      clear Dq Kq
      obtain ⟨j, y, tr', rfl, rfl, rfl, hDr, hKr, hI, hT⟩ := hrel
      have hj : j ≤ n + 1 := hI.j
      have hclt := carry_lt (num x (n + 1)) (2 ^ k) j hP0
      have hstep := carry_step (num x (n + 1)) (2 ^ k) j
      have HI := Lib.hid hI; have HT := Lib.hid hT; clear hI hT
      have hf := hDr.free
      by_cases hlt : j < n + 1
      · obtain ⟨rr, hrr⟩ : ∃ rr : Nat, (n : Int) - (j : Int) = (rr : Int) := ⟨n - j, by omega⟩
        have hrr2 : n - j = rr := by omega
        obtain ⟨wi, hwi⟩ : ∃ wi : Nat, (n : Int) + 1 + (a : Int) - (j : Int) - 1 = (wi : Int) := ⟨n + a - j, by omega⟩
        have hwi2 : n + a - j = wi := by omega
        have cD := hDr.dig rr (by omega)
        have hyr : y rr = x rr := HI.out.y rr (by dsimp only; omega)
        rw [hyr] at cD
        have hx := hd rr (by omega)
        have hls : lsS x n k j = num x (n + 1) % 10 ^ j * 2 ^ k / 10 ^ j + (x rr - 48) * 2 ^ k := by unfold lsS; rw [hrr2]
        rw [num_digit hd hlt, show n + 1 - 1 - j = rr by omega] at hstep
        generalize hcn : num x (n + 1) % 10 ^ j * 2 ^ k / 10 ^ j = cn at hclt hstep hls ⊢
        obtain ⟨sh, hsh, hsh2⟩ : ∃ sh : Nat, ((x rr : Int) - 48) * 2 ^ k = (sh : Int) ∧ sh = (x rr - 48) * 2 ^ k := ⟨(x rr - 48) * 2 ^ k, by
          have : ((x rr : Int) - 48) = ((x rr - 48 : Nat) : Int) := by omega
          rw [this]; simp, rfl⟩
        rw [← hsh2] at hstep hls
        have hsh9 : sh ≤ 9 * 2 ^ k := by rw [hsh2]; exact Nat.mul_le_mul_right _ (by omega)
        have Hsh2 := Lib.hid hsh2; clear hsh2 hyr
        obtain ⟨s, hs⟩ : ∃ s : Nat, (cn : Int) + (sh : Int) = (s : Int) := ⟨cn + sh, by omega⟩
        have hs2 : cn + sh = s := by omega
        rw [hs2] at hstep hls
        have hs10 : s < 10 * 2 ^ k := by omega
        obtain ⟨q, hq⟩ : ∃ q : Nat, (s : Int) / 10 = (q : Int) := ⟨s / 10, by omega⟩
        obtain ⟨rm, hrm⟩ : ∃ rm : Nat, (s : Int) - 10 * (q : Int) = (rm : Int) := ⟨s % 10, by omega⟩
        have hq2 : s / 10 = q := by omega
        rw [hq2] at hstep
        have hrm2 : lsS x n k j % 10 = rm := by rw [hls]; omega
        have Hstep := Lib.hid hstep; have Hs2 := Lib.hid hs2; have Hq2 := Lib.hid hq2; have Hrm := Lib.hid hrm2; have Hwi2 := Lib.hid hwi2; clear hstep hs2 hq2 hls hrm2 hwi2 hrr2
        have hrm9 : rm ≤ 9 := by omega
        by_cases hw8 : wi < 800
        · have hst : l1F x n k a (j, y, tr') = some (j + 1, upd y wi (rm + 48), tr') := by
            unfold l1F; rw [if_pos hlt]; dsimp only; rw [Hwi2.out, if_pos hw8, Hrm.out]
          have HI2 := Lib.hid (HI.out.go hd h8 Hhi.out hst).1
          have HT2' := Lib.hid (HT.out.next hst)
          clear hst
          have cW := hDr.dig wi hw8
          go_wp2_with fail
          all_goals
            have D2 : Dec (wr.setCell ⟨B, wi, none⟩ (.int .u8 ((rm : Int) + 48))) B (upd y wi (rm + 48)) (n + 1) dp ng tr' := hDr.setD hw8 (rm + 48)
            exact ⟨⟨j + 1, upd y wi (rm + 48), tr', congrArg (Value.int .i64) (by omega), congrArg (Value.int .i64) (by omega), congrArg (Value.int .u64) (by rw [Hstep.out]), D2, hKr.set1 _ _, HI2.out, HT2'.out⟩, by simp [intOf]; omega⟩
        · have hst : l1F x n k a (j, y, tr') = some (j + 1, y, tr' || decide (rm ≠ 0)) := by
            unfold l1F; rw [if_pos hlt]; dsimp only; rw [Hwi2.out, if_neg hw8, Hrm.out]
          have HI2 := Lib.hid (HI.out.go hd h8 Hhi.out hst).1
          have HT2' := Lib.hid (HT.out.next hst)
          clear hst
          have cT := hDr.t
          by_cases hrm0 : rm = 0
          · have hor : (tr' || decide (rm ≠ 0)) = tr' := by simp [hrm0]
            have HOR := Lib.hid hor; clear hor
            have zr : ((rm : Int) != 0) = false := by rw [hrm0]; rfl
            go_wp2_with fail
            exact ⟨⟨j + 1, y, tr', congrArg (Value.int .i64) (by omega), congrArg (Value.int .i64) (by omega), congrArg (Value.int .u64) (by rw [Hstep.out]), hDr, hKr, by have := HI2.out; rw [HOR.out] at this; exact this, by have := HT2'.out; rw [HOR.out] at this; exact this⟩, by simp [intOf]; omega⟩
          · have hor : (tr' || decide (rm ≠ 0)) = true := by simp [hrm0]
            have HOR := Lib.hid hor; clear hor
            have zr : ((rm : Int) != 0) = true := by rw [bne_iff_ne]; omega
            go_wp2_with fail
            exact ⟨⟨j + 1, y, true, congrArg (Value.int .i64) (by omega), congrArg (Value.int .i64) (by omega), congrArg (Value.int .u64) (by rw [Hstep.out]), hDr.setT true, hKr.set1 _ _, by have := HI2.out; rw [HOR.out] at this; exact this, by have := HT2'.out; rw [HOR.out] at this; exact this⟩, by simp [intOf]; omega⟩
      · obtain rfl : j = n + 1 := by omega
        have hte := HT.out.last (show l1F x n k a (n + 1, y, tr') = none from if_neg hlt)
        subst hte
        rw [Nat.mod_eq_of_lt HDlt.out] at hclt ⊢
        have hhi := Hhi.out
        have hlo := Hlo.out
        clear hstep HI HT HT1
        have HT2 := HT2
        dsimp only at HT2
        generalize num x (n + 1) * 2 ^ k = NN at hhi hlo hclt HT2 ⊢
        have HH := Lib.hid hhi; have HL := Lib.hid hlo; clear hhi hlo
        go_wp2_with fail
        go_loopw [6, 7] (fun vw vn wr => ∃ (t : Nat) (y : Nat → Nat), t ≤ a ∧ vw = .int .i64 ((a : Int) - t) ∧ vn = .int .u64 ((NN / 10 ^ (n + 1 + t) : Nat) : Int) ∧ Dec wr B y (n + 1) dp ng tr' ∧ Kept [B] w wr ∧ Tr (l2F NN n a) (t, y) t2) (fun vw _ _ => (intOf vw).toNat)
        case atStart => exact ⟨0, y, by omega, congrArg (Value.int .i64) (by omega), rfl, hDr, hKr, HT2.out⟩
        case round =>
          clear hDr hKr hf HT2
          obtain ⟨t, y, hta, rfl, rfl, hDr, hKr, hT⟩ := hrel
          have hf := hDr.free
          have hstep := NN_step NN n t
          have hzero : t = a → NN / 10 ^ (n + 1 + t) = 0 := NN_zero HH.out
          have hfull : NN / 10 ^ (n + 1 + t) = 0 → a ≤ t := NN_full HL.out
          have hsmall : NN / 10 ^ (n + 1 + t) < 18446744073709551616 := by
            refine Nat.lt_of_le_of_lt (Nat.div_le_div_left ?_ (p10 (n + 1))) (show NN / 10 ^ (n + 1) < _ by omega)
            exact Nat.pow_le_pow_right (by decide) (by omega)
          have hl2 : 0 < NN / 10 ^ (n + 1 + t) → l2F NN n a (t, y) = some (t + 1, upd y (a - t - 1) (NN / 10 ^ (n + 1 + t) % 10 + 48)) := fun h => if_pos h
          have hl3 : ¬ 0 < NN / 10 ^ (n + 1 + t) → l2F NN n a (t, y) = none := fun h => if_neg h
          have HT := Lib.hid hT; clear hT
          generalize NN / 10 ^ (n + 1 + t) = s at hstep hzero hfull hsmall hl2 hl3 ⊢
          by_cases hs0 : 0 < s
          · have htl : t < a := by
              rcases Nat.lt_or_ge t a with h | h
              · exact h
              · have := hzero (by omega); omega
            obtain ⟨wi, hwi⟩ : ∃ wi : Nat, (a : Int) - (t : Int) - 1 = (wi : Int) := ⟨a - t - 1, by omega⟩
            obtain ⟨q, hq⟩ : ∃ q : Nat, (s : Int) / 10 = (q : Int) := ⟨s / 10, by omega⟩
            obtain ⟨rm, hrm⟩ : ∃ rm : Nat, (s : Int) - 10 * (q : Int) = (rm : Int) := ⟨s % 10, by omega⟩
            have hst := hl2 hs0
            rw [show a - t - 1 = wi by omega, show s % 10 = rm by omega] at hst
            have HT2' := Lib.hid (HT.out.next hst)
            have hq2 : s / 10 = q := by omega
            have hrm9 : rm ≤ 9 := by omega
            rw [hq2] at hstep
            have Hstep := Lib.hid hstep; have Hq2 := Lib.hid hq2; clear hstep hq2 hzero hfull hst hl2 hl3
            have cW := hDr.dig wi (by omega)
            go_wp2_with fail
            have D2 : Dec (wr.setCell ⟨B, wi, none⟩ (.int .u8 ((rm : Int) + 48))) B (upd y wi (rm + 48)) (n + 1) dp ng tr' := hDr.setD (by omega) (rm + 48)
            exact ⟨⟨t + 1, upd y wi (rm + 48), by omega, congrArg (Value.int .i64) (by omega), congrArg (Value.int .u64) (by rw [Hstep.out]), D2, hKr.set1 _ _, HT2'.out⟩, by simp [intOf]; omega⟩
          · have hte := HT.out.last (hl3 hs0)
            obtain rfl : s = 0 := by omega
            obtain rfl : t = a := by have := hfull rfl; omega
            subst hte
            clear hstep hzero hfull hl2 hl3
            have cN := hDr.n
            have cP := hDr.p
            have hoff := cell_set_off
            have hc8 : (wr.setCell ⟨B, 800, none⟩ (.int .i64 ((n : Int) + 1 + t))).cell? ⟨B, 800, none⟩ = some (.int .i64 ((n : Int) + 1 + t)) := hDr.set_at 800 _ (by omega)
            by_cases h800 : n + 1 + t < 800
            · have hnn : nn = n + 1 + t := by have := HNN.out; omega
              subst hnn
              go_wp2_with fail
              have D2 := (hDr.setN (n + 1 + t)).setP (dp + (t : Nat))
              have K2 := (hKr.set1 800 (.int .i64 ((n + 1 + t : Nat) : Int))).set1 801 (.int .i64 (dp + (t : Nat)))
              refine (HTM.out _ _ D2).mono ?_
              rintro en w' ⟨rfl, hKt, hDt⟩
              go_wp2_with fail
              go_end0
              exact ⟨rfl, Kept.trans K2 hKt (fun _ h => h) (fun _ h _ => h), by have := HZ.out; rw [← this]; exact hDt⟩
            · have hnn : nn = 800 := by have := HNN.out; omega
              subst hnn
              go_wp2_with fail
              have D1 := hDr.setN (n + 1 + t)
              have D2 := (D1.setN 800).setP (dp + (t : Nat))
              have K2 := ((hKr.set1 800 (.int .i64 ((n + 1 + t : Nat) : Int))).set1 800 (.int .i64 ((800 : Nat) : Int))).set1 801 (.int .i64 (dp + (t : Nat)))
              refine (HTM.out _ _ D2).mono ?_
              rintro en w' ⟨rfl, hKt, hDt⟩
              go_wp2_with fail
              go_end0
              exact ⟨rfl, Kept.trans K2 hKt (fun _ h => h) (fun _ h _ => h), by have := HZ.out; rw [← this]; exact hDt⟩
end Go.Proofs.YtfkecmlmnhbmoaaGreatDoor
namespace Go.Proofs.YtfkecmlmnhbmoaaGreatDoor
open Go.RowKit
set_option maxRecDepth 100000 in
set_option maxHeartbeats 4000000 in
theorem dshift_rF (x : Nat → Nat) (nd : Nat) (dp : Int) (ng tr : Bool) (k : Nat) (hd : Dg x nd) (h1 : 1 ≤ nd) (h8 : nd ≤ 800) (h0 : x 0 ≠ 48) (hk1 : 1 ≤ k) (hk2 : k ≤ 60) (hp1 : -1000000000 ≤ dp) (hp2 : dp ≤ 1000000000) :
    ∃ (x' : Nat → Nat) (nd' : Nat) (dp' : Int) (tr' : Bool), (Dg x' nd' ∧ 1 ≤ nd' ∧ nd' ≤ 800 ∧ x' 0 ≠ 48 ∧ dp' ≤ dp ∧ dp - 900 ≤ dp' ∧ (dp' = dp → 2 ^ k ≤ x 0 - 48 ∧ x' 0 = 48 + (x 0 - 48) / 2 ^ k)) ∧
      ∀ (B : Nat) (w : World), Dec w B x nd dp ng tr → Calls Tryz.prog 155 #[.pointer (some ⟨B, 0, none⟩), .int .i64 (-(k : Int))] w fun en w' => en = .returned (.tuple #[]) ∧ Kept [B] w w' ∧ Dec w' B x' nd' dp' ng tr' := by
  obtain ⟨x', nd', dp', tr', hp, hR⟩ := rshiftF x nd dp ng tr k hd h1 h8 h0 hk1 hk2 hp1 hp2
  refine ⟨x', nd', dp', tr', hp, fun B w hD => ?_⟩
  have HR := Lib.hid hR; clear hR hp
  have cN := hD.n
  have z0 : ((nd : Int) == 0) = false := beq_eq_false_iff_ne.2 (by omega)
  go_enter Tryz.func155, Tryz.ntmps155
  go_wp2_with fail
  refine wp_loop_once ?_
  go_wp2_with fail
  refine (HR.out _ _ hD).mono ?_
  rintro en w' ⟨rfl, hr⟩
  have HR2 := Lib.hid hr; clear hr
  go_wp2_with fail
  go_end0
  exact ⟨rfl, HR2.out⟩
set_option maxRecDepth 100000 in
set_option maxHeartbeats 4000000 in
theorem dshift_lF (x : Nat → Nat) (nd : Nat) (dp : Int) (ng tr : Bool) (k : Nat) (hd : Dg x nd) (h1 : 1 ≤ nd) (h8 : nd ≤ 800) (h0 : x 0 ≠ 48) (hk1 : 1 ≤ k) (hk2 : k ≤ 60) (hp1 : -1000000000 ≤ dp) (hp2 : dp ≤ 1000000000) :
    ∃ (x' : Nat → Nat) (nd' a : Nat) (tr' : Bool), (Dg x' nd' ∧ 1 ≤ nd' ∧ nd' ≤ 800 ∧ x' 0 ≠ 48 ∧ a ≤ 19 ∧ (a = 0 → 48 + (x 0 - 48) * 2 ^ k ≤ x' 0)) ∧
      ∀ (B N : Nat) (w : World), Cheat N w → N ≤ B → Dec w B x nd dp ng tr → Calls Tryz.prog 155 #[.pointer (some ⟨B, 0, none⟩), .int .i64 k] w fun en w' => en = .returned (.tuple #[]) ∧ Kept [B] w w' ∧ Dec w' B x' nd' (dp + (a : Nat)) ng tr' := by
  obtain ⟨x', nd', a, tr', hp, hR⟩ := lshiftF x nd dp ng tr k hd h1 h8 h0 hk1 hk2 hp1 hp2
  refine ⟨x', nd', a, tr', hp, fun B N w hch hN hD => ?_⟩
  have HR := Lib.hid hR; clear hR hp
  have cN := hD.n
  have HCH := Lib.hid hch; clear hch
  have z0 : ((nd : Int) == 0) = false := beq_eq_false_iff_ne.2 (by omega)
  go_enter Tryz.func155, Tryz.ntmps155
  go_wp2_with fail
  refine wp_loop_once ?_
  go_wp2_with fail
  refine (HR.out _ _ _ HCH.out hN hD).mono ?_
  rintro en w' ⟨rfl, hr⟩
  have HR2 := Lib.hid hr; clear hr
  go_wp2_with fail
  go_end0
  exact ⟨rfl, HR2.out⟩
abbrev DS := (Nat → Nat) × Nat × Int × Bool
/-- A decimal whose digits are in order. -/
structure DOk (q : DS) : Prop where
  dg : Dg q.1 q.2.1
  n1 : 1 ≤ q.2.1
  n8 : q.2.1 ≤ 800
  x0 : q.1 0 ≠ 48
theorem rshiftQ (ng : Bool) (k : Nat) (q : DS) (h : DOk q) (hk1 : 1 ≤ k) (hk2 : k ≤ 60) (hp1 : -1000000000 ≤ q.2.2.1) (hp2 : q.2.2.1 ≤ 1000000000) : ∃ r : DS, (DOk r ∧ r.2.2.1 ≤ q.2.2.1 ∧ q.2.2.1 - 900 ≤ r.2.2.1) ∧
    ∀ (B : Nat) (w : World), Dec w B q.1 q.2.1 q.2.2.1 ng q.2.2.2 → Calls Tryz.prog 207 #[.pointer (some ⟨B, 0, none⟩), .int .u64 k] w fun en w' => en = .returned (.tuple #[]) ∧ Kept [B] w w' ∧ Dec w' B r.1 r.2.1 r.2.2.1 ng r.2.2.2 := by
  obtain ⟨x', nd', dp', tr', ⟨a1, a2, a3, a4, a5, a6, _⟩, hR⟩ := rshiftF q.1 q.2.1 q.2.2.1 ng q.2.2.2 k h.dg h.n1 h.n8 h.x0 hk1 hk2 hp1 hp2
  exact ⟨(x', nd', dp', tr'), ⟨⟨a1, a2, a3, a4⟩, a5, a6⟩, hR⟩
open Classical in
noncomputable def rsD (ng : Bool) (q : DS) : DS := if h : DOk q ∧ -1000000000 ≤ q.2.2.1 ∧ q.2.2.1 ≤ 1000000000 then Classical.choose (rshiftQ ng 60 q h.1 (by decide) (by decide) h.2.1 h.2.2) else q
theorem rsD_is {ng : Bool} {q : DS} (h : DOk q) (hp1 : -1000000000 ≤ q.2.2.1) (hp2 : q.2.2.1 ≤ 1000000000) : (DOk (rsD ng q) ∧ (rsD ng q).2.2.1 ≤ q.2.2.1 ∧ q.2.2.1 - 900 ≤ (rsD ng q).2.2.1) ∧
    ∀ (B : Nat) (w : World), Dec w B q.1 q.2.1 q.2.2.1 ng q.2.2.2 → Calls Tryz.prog 207 #[.pointer (some ⟨B, 0, none⟩), .int .u64 (60 : Nat)] w fun en w' => en = .returned (.tuple #[]) ∧ Kept [B] w w' ∧ Dec w' B (rsD ng q).1 (rsD ng q).2.1 (rsD ng q).2.2.1 ng (rsD ng q).2.2.2 := by
  unfold rsD
  rw [dif_pos ⟨h, hp1, hp2⟩]
  exact Classical.choose_spec (rshiftQ ng 60 q h (by decide) (by decide) hp1 hp2)
noncomputable def rnF (ng : Bool) (s : Nat × DS) : Option (Nat × DS) := if 60 < s.1 then some (s.1 - 60, rsD ng s.2) else none
structure RN (k : Nat) (dp : Int) (s : Nat × DS) : Prop where
  j1 : 1 ≤ s.1
  j2 : s.1 ≤ k
  ok : DOk s.2
  hi : s.2.2.2.1 ≤ dp
  lo : dp - 900 * ((k : Int) - s.1) ≤ s.2.2.2.1
theorem RN.go {ng : Bool} {k : Nat} {dp : Int} (hk2 : k ≤ 500000) (hp1 : -100000000 ≤ dp) (hp2 : dp ≤ 100000000) {s t : Nat × DS} (h : RN k dp s) (e : rnF ng s = some t) : RN k dp t ∧ t.1 < s.1 := by
  obtain ⟨a1, a2, a3, a4, a5⟩ := h
  unfold rnF at e
  split at e
  · cases e
    obtain ⟨⟨b1, b2, b3⟩, _⟩ := rsD_is (ng := ng) a3 (by omega) (by omega)
    exact ⟨⟨by dsimp only; omega, by dsimp only; omega, b1, by dsimp only; omega, by dsimp only; omega⟩, by dsimp only; omega⟩
  · cases e
set_option maxRecDepth 100000 in
set_option maxHeartbeats 4000000 in
theorem dshift_rnF (x : Nat → Nat) (nd : Nat) (dp : Int) (ng tr : Bool) (k : Nat) (hd : Dg x nd) (h1 : 1 ≤ nd) (h8 : nd ≤ 800) (h0 : x 0 ≠ 48) (hk1 : 1 ≤ k) (hk2 : k ≤ 500000) (hp1 : -100000000 ≤ dp) (hp2 : dp ≤ 100000000) :
    ∃ (x' : Nat → Nat) (nd' : Nat) (dp' : Int) (tr' : Bool), (Dg x' nd' ∧ 1 ≤ nd' ∧ nd' ≤ 800 ∧ x' 0 ≠ 48 ∧ dp' ≤ dp ∧ dp - 900 * (k : Int) ≤ dp') ∧
      ∀ (B : Nat) (w : World), Dec w B x nd dp ng tr → Calls Tryz.prog 155 #[.pointer (some ⟨B, 0, none⟩), .int .i64 (-(k : Int))] w fun en w' => en = .returned (.tuple #[]) ∧ Kept [B] w w' ∧ Dec w' B x' nd' dp' ng tr' := by
  obtain ⟨t, hT, ⟨a1, a2, a3, a4, a5⟩, hn⟩ := Tr.ends (f := rnF ng) (fun s => s.1) (RN k dp) (fun s t hs e => RN.go hk2 hp1 hp2 hs e) _ (k, x, nd, dp, tr) (Nat.le_refl _) ⟨hk1, Nat.le_refl _, ⟨hd, h1, h8, h0⟩, by dsimp only; omega, by dsimp only; omega⟩
  have ht : t.1 ≤ 60 := by
    unfold rnF at hn
    split at hn
    · cases hn
    · omega
  obtain ⟨r, ⟨b1, b2, b3⟩, hR⟩ := rshiftQ ng t.1 t.2 a3 a1 ht (by omega) (by omega)
  refine ⟨r.1, r.2.1, r.2.2.1, r.2.2.2, ⟨b1.dg, b1.n1, b1.n8, b1.x0, by omega, by omega⟩, fun B w hD => ?_⟩
  have HT0 := Lib.hid hT; have HR := Lib.hid hR; clear hT hR hn
  have cN := hD.n
  have hk0 : 0 < k := hk1
  have z0 : ((nd : Int) == 0) = false := beq_eq_false_iff_ne.2 (by omega)
  go_enter Tryz.func155, Tryz.ntmps155
  go_wp2_with fail
  clear cN z0
  go_loopw [1] (fun vk wr => ∃ (j : Nat) (q : DS), vk = .int .i64 (-(j : Int)) ∧ Dec wr B q.1 q.2.1 q.2.2.1 ng q.2.2.2 ∧ Kept [B] w wr ∧ RN k dp (j, q) ∧ Tr (rnF ng) (j, q) t) (fun vk _ => (-(intOf vk)).toNat)
  case atStart => exact ⟨k, (x, nd, dp, tr), rfl, hD, Kept.refl _ _, ⟨hk1, Nat.le_refl _, ⟨hd, h1, h8, h0⟩, by dsimp only; omega, by dsimp only; omega⟩, HT0.out⟩
  case round =>
    clear hD hd h1 h8 h0
    obtain ⟨j, q, rfl, hD, hK, hI, hT⟩ := hrel
    have hj1 : 1 ≤ j := hI.j1
    have hj2 : j ≤ k := hI.j2
    have HT := Lib.hid hT; have HI := Lib.hid hI; clear hT hI
    by_cases hj : 60 < j
    · have hst : rnF ng (j, q) = some (j - 60, rsD ng q) := if_pos hj
      have HI2 := Lib.hid (HI.out.go hk2 hp1 hp2 hst).1
      have HT2 := Lib.hid (HT.out.next hst)
      have hlo : dp - 900 * ((k : Int) - j) ≤ q.2.2.1 := HI.out.lo
      have hhi : q.2.2.1 ≤ dp := HI.out.hi
      have hrun := (rsD_is (ng := ng) (q := q) HI.out.ok (by omega) (by omega)).2 B wr hD
      have HRN := Lib.hid hrun; clear hst hrun
      go_wp2_with fail
      refine HRN.out.mono ?_
      rintro en w' ⟨rfl, hK2, hD'⟩
      have HD' := Lib.hid hD'; clear hD'
      go_wp2_with fail
      go_roundw
      case rel => exact ⟨j - 60, rsD ng q, congrArg (Value.int .i64) (by omega), HD'.out, Kept.trans hK hK2 (fun _ h => h) (fun _ h _ => h), HI2.out, HT2.out⟩
      case measure => simp [intOf]; omega
    · have hte := HT.out.last (show rnF ng (j, q) = none from if_neg hj)
      subst hte
      go_wp2_with fail
      refine (HR.out _ _ hD).mono ?_
      rintro en w' ⟨rfl, hK2, hD'⟩
      have HD' := Lib.hid hD'; clear hD'
      go_wp2_with fail
      go_end0
      exact ⟨rfl, Kept.trans hK hK2 (fun _ h => h) (fun _ h _ => h), HD'.out⟩
end Go.Proofs.YtfkecmlmnhbmoaaGreatDoor
