import Derived.Test.YtfkecmlmnhbmoaaGreatDoorFk07
namespace Go.Proofs.YtfkecmlmnhbmoaaGreatDoor
open Go.RowKit
/-- A loop's states, by its own step: from s the last one is t. -/
inductive Tr {σ : Type} (f : σ → Option σ) : σ → σ → Prop
  | stop {s : σ} (h : f s = none) : Tr f s s
  | go {s t u : σ} (h : f s = some t) (k : Tr f t u) : Tr f s u
theorem Tr.next {σ : Type} {f : σ → Option σ} {s t u : σ} (h : Tr f s u) (e : f s = some t) : Tr f t u := by
  cases h with
  | stop h => rw [h] at e; cases e
  | go h k => rw [h] at e; cases e; exact k
theorem Tr.last {σ : Type} {f : σ → Option σ} {s u : σ} (h : Tr f s u) (e : f s = none) : u = s := by
  cases h with
  | stop _ => rfl
  | go h _ => rw [h] at e; cases e
theorem Tr.ends {σ : Type} {f : σ → Option σ} (m : σ → Nat) (I : σ → Prop) (h : ∀ s t, I s → f s = some t → I t ∧ m t < m s) : ∀ (n : Nat) (s : σ), m s ≤ n → I s → ∃ t, Tr f s t ∧ I t ∧ f t = none
  | n, s, hn, hs => by
    cases e : f s with
    | none => exact ⟨s, .stop e, hs, e⟩
    | some t =>
      obtain ⟨h1, h2⟩ := h s t hs e
      cases n with
      | zero => omega
      | succ n =>
        obtain ⟨u, h3, h4, h5⟩ := Tr.ends m I h n t (by omega) h1
        exact ⟨u, .go e h3, h4, h5⟩
set_option maxHeartbeats 800000 in
set_option maxRecDepth 100000 in
theorem mul64F (x y : Int) (h : U x) (k : U y) : ∃ a b : Int, (U a ∧ U b) ∧ ∀ w,
    Calls Tryz.prog 232 #[.int .u64 x, .int .u64 y] w fun e w' => e = .returned (.tuple #[.int .u64 a, .int .u64 b]) ∧ w = w' := by
  obtain ⟨h1, h2⟩ := h
  obtain ⟨h3, h4⟩ := k
  apply Exists.intro
  apply Exists.intro
  apply And.intro
  rotate_left 1
  · intro w
    go_enter Tryz.func232, Tryz.ntmps232
    go_wp2_with fail
    go_ret2
    exact ⟨rfl, rfl⟩
  exact ⟨U_wrap _, U_wrap _⟩
set_option maxHeartbeats 400000 in
theorem unminF (x : Int) (h : U x) : ∃ r, U r ∧ ∀ w,
    Calls Tryz.prog 203 #[.int .u64 x] w fun e w' => e = .returned (.int .u64 r) ∧ w = w' := by
  obtain ⟨h1, h2⟩ := h
  apply Exists.intro
  apply And.intro
  rotate_left 1
  · intro w
    go_enter Tryz.func203, Tryz.ntmps203
    go_wp2
    go_ret
    exact ⟨rfl, rfl⟩
  exact U_wrap _
set_option maxHeartbeats 400000 in
theorem rroundF (x : Int) (h : U x) : ∃ r, U r ∧ ∀ w,
    Calls Tryz.prog 202 #[.int .u64 x] w fun e w' => e = .returned (.int .u64 r) ∧ w = w' := by
  obtain ⟨h1, h2⟩ := h
  apply Exists.intro
  apply And.intro
  rotate_left 1
  · intro w
    go_enter Tryz.func202, Tryz.ntmps202
    go_wp2
    go_ret
    exact ⟨rfl, rfl⟩
  exact U_ediv (U_wrap _) _ (by decide)
set_option maxHeartbeats 400000 in
theorem udivF (x : Int) (h : U x) : ∃ r, U r ∧ ∀ w,
    Calls Tryz.prog 204 #[.int .u64 x, .int .u64 10] w fun e w' => e = .returned (.int .u64 r) ∧ ∃ n, w' = w.drewN n := by
  obtain ⟨h1, h2⟩ := h
  apply Exists.intro
  apply And.intro
  rotate_left 1
  · intro w
    go_enter Tryz.func204, Tryz.ntmps204
    go_wp2_with fail
    go_quiet ((go_at_call 233; exact Calls.quiet_of_same (b2n' _ _)))
    go_wp2_with fail
    go_ret
    exact ⟨rfl, nq, rfl⟩
  exact U_bits _ _ _
set_option maxHeartbeats 800000 in
set_option maxRecDepth 100000 in
theorem uscaleF (x a b s : Int) (hx : U x) (ha : U a) (hb : U b) : ∃ r : Int, U r ∧ ∀ (B : Nat) (w : World), w.cell? ⟨B, 0, none⟩ = some (.int .u64 a) → w.cell? ⟨B, 1, none⟩ = some (.int .u64 b) → w.cell? ⟨B, 2, none⟩ = some (.int .i64 s) →
    Calls Tryz.prog 198 #[.int .u64 x, .pointer (some ⟨B, 0, none⟩)] w fun en w' => en = .returned (.int .u64 r) ∧ ∃ n, w' = w.drewN n := by
  have h63 := and63 s
  obtain ⟨h630, h631⟩ := h63
  generalize hk : bits .and .i64 s 63 = k at h630 h631
  obtain ⟨hi, mid, ⟨⟨u1, u2⟩, ⟨u3, u4⟩⟩, HM⟩ := mul64F x a hx ha
  obtain ⟨hi2, mid2, ⟨⟨u5, u6⟩, ⟨u7, u8⟩⟩, HM2⟩ := mul64F x b hx hb
  have H1 := Lib.hid HM; have H2 := Lib.hid HM2; clear HM HM2
  cases hc : (IntKind.u64.wrap (hi / 2 ^ k.toNat * 2 ^ k.toNat) != hi)
  · obtain ⟨v1, v2⟩ := U_bi (decide (mid < hi2))
    apply Exists.intro
    apply And.intro
    rotate_left 1
    · intro B w c0 c1 c2
      go_enter Tryz.func198, Tryz.ntmps198
      go_wp2_with fail
      refine (H1.out _).mono ?_
      rintro e w' ⟨rfl, rfl⟩
      go_wp2_with fail
      refine (H2.out _).mono ?_
      rintro e w' ⟨rfl, rfl⟩
      go_wp2_with fail
      refine (b2u _ _).mono ?_
      rintro e w' ⟨rfl, rfl⟩
      go_wp2_with fail
      go_quiet ((go_at_call 188; exact Calls.quiet_of_same (b2u' _ _)))
      go_wp2_with fail
      go_ret
      exact ⟨rfl, nq, rfl⟩
    exact U_bits _ _ _
  · apply Exists.intro
    apply And.intro
    rotate_left 1
    · intro B w c0 c1 c2
      go_enter Tryz.func198, Tryz.ntmps198
      go_wp2_with fail
      refine (H1.out _).mono ?_
      rintro e w' ⟨rfl, rfl⟩
      go_wp2_with fail
      go_ret
      exact ⟨rfl, 0, rfl⟩
    exact U_bits _ _ _
end Go.Proofs.YtfkecmlmnhbmoaaGreatDoor
