import Derived.Test.YtfkecmlmnhbmoaaGreatDoorFk38
import Derived.Test.YtfkecmlmnhbmoaaGreatDoorFk20
namespace Go.Proofs.YtfkecmlmnhbmoaaGreatDoor
open Go.RowKit
theorem shRQ (ng : Bool) (k : Nat) (q : DS) (h : DOk q) (hk1 : 1 ≤ k) (hk2 : k ≤ 60) (hp1 : -1000000000 ≤ q.2.2.1) (hp2 : q.2.2.1 ≤ 1000000000) :
    ∃ r : DS, (DOk r ∧ r.2.2.1 ≤ q.2.2.1 ∧ q.2.2.1 - 900 ≤ r.2.2.1 ∧ (r.2.2.1 = q.2.2.1 → 2 ^ k ≤ q.1 0 - 48 ∧ r.1 0 = 48 + (q.1 0 - 48) / 2 ^ k)) ∧
      ∀ (B : Nat) (w : World), Dec w B q.1 q.2.1 q.2.2.1 ng q.2.2.2 → Calls Tryz.prog 155 #[.pointer (some ⟨B, 0, none⟩), .int .i64 (-(k : Int))] w fun en w' => en = .returned (.tuple #[]) ∧ Kept [B] w w' ∧ Dec w' B r.1 r.2.1 r.2.2.1 ng r.2.2.2 := by
  obtain ⟨x', nd', dp', tr', ⟨a1, a2, a3, a4, a5, a6, a7⟩, hR⟩ := dshift_rF q.1 q.2.1 q.2.2.1 ng q.2.2.2 k h.dg h.n1 h.n8 h.x0 hk1 hk2 hp1 hp2
  exact ⟨(x', nd', dp', tr'), ⟨⟨a1, a2, a3, a4⟩, a5, a6, a7⟩, hR⟩
theorem shLQ (ng : Bool) (k : Nat) (q : DS) (h : DOk q) (hk1 : 1 ≤ k) (hk2 : k ≤ 60) (hp1 : -1000000000 ≤ q.2.2.1) (hp2 : q.2.2.1 ≤ 1000000000) :
    ∃ r : DS, (DOk r ∧ ∃ a : Nat, r.2.2.1 = q.2.2.1 + (a : Nat) ∧ a ≤ 19 ∧ (a = 0 → 48 + (q.1 0 - 48) * 2 ^ k ≤ r.1 0)) ∧
      ∀ (B N : Nat) (w : World), Cheat N w → N ≤ B → Dec w B q.1 q.2.1 q.2.2.1 ng q.2.2.2 → Calls Tryz.prog 155 #[.pointer (some ⟨B, 0, none⟩), .int .i64 k] w fun en w' => en = .returned (.tuple #[]) ∧ Kept [B] w w' ∧ Dec w' B r.1 r.2.1 r.2.2.1 ng r.2.2.2 := by
  obtain ⟨x', nd', a, tr', ⟨a1, a2, a3, a4, a5, a6⟩, hR⟩ := dshift_lF q.1 q.2.1 q.2.2.1 ng q.2.2.2 k h.dg h.n1 h.n8 h.x0 hk1 hk2 hp1 hp2
  exact ⟨(x', nd', q.2.2.1 + (a : Nat), tr'), ⟨⟨a1, a2, a3, a4⟩, a, rfl, a5, a6⟩, hR⟩
/-- Where a decimal may be shifted. -/
structure ShOk (k : Nat) (q : DS) : Prop where
  ok : DOk q
  k1 : 1 ≤ k
  k2 : k ≤ 60
  lo : -1000000000 ≤ q.2.2.1
  hi : q.2.2.1 ≤ 1000000000
open Classical in
noncomputable def shR (ng : Bool) (k : Nat) (q : DS) : DS := if h : ShOk k q then Classical.choose (shRQ ng k q h.ok h.k1 h.k2 h.lo h.hi) else q
open Classical in
noncomputable def shL (ng : Bool) (k : Nat) (q : DS) : DS := if h : ShOk k q then Classical.choose (shLQ ng k q h.ok h.k1 h.k2 h.lo h.hi) else q
theorem shR_is {ng : Bool} {k : Nat} {q r : DS} (h : ShOk k q) (e : shR ng k q = r) : (DOk r ∧ r.2.2.1 ≤ q.2.2.1 ∧ q.2.2.1 - 900 ≤ r.2.2.1 ∧ (r.2.2.1 = q.2.2.1 → 2 ^ k ≤ q.1 0 - 48 ∧ r.1 0 = 48 + (q.1 0 - 48) / 2 ^ k)) ∧
      ∀ (B : Nat) (w : World), Dec w B q.1 q.2.1 q.2.2.1 ng q.2.2.2 → Calls Tryz.prog 155 #[.pointer (some ⟨B, 0, none⟩), .int .i64 (-(k : Int))] w fun en w' => en = .returned (.tuple #[]) ∧ Kept [B] w w' ∧ Dec w' B r.1 r.2.1 r.2.2.1 ng r.2.2.2 := by
  subst e
  unfold shR
  rw [dif_pos h]
  exact Classical.choose_spec (shRQ ng k q h.ok h.k1 h.k2 h.lo h.hi)
theorem shL_is {ng : Bool} {k : Nat} {q r : DS} (h : ShOk k q) (e : shL ng k q = r) : (DOk r ∧ ∃ a : Nat, r.2.2.1 = q.2.2.1 + (a : Nat) ∧ a ≤ 19 ∧ (a = 0 → 48 + (q.1 0 - 48) * 2 ^ k ≤ r.1 0)) ∧
      ∀ (B N : Nat) (w : World), Cheat N w → N ≤ B → Dec w B q.1 q.2.1 q.2.2.1 ng q.2.2.2 → Calls Tryz.prog 155 #[.pointer (some ⟨B, 0, none⟩), .int .i64 k] w fun en w' => en = .returned (.tuple #[]) ∧ Kept [B] w w' ∧ Dec w' B r.1 r.2.1 r.2.2.1 ng r.2.2.2 := by
  subst e
  unfold shL
  rw [dif_pos h]
  exact Classical.choose_spec (shLQ ng k q h.ok h.k1 h.k2 h.lo h.hi)
abbrev DE := Int × DS
/-- The table powtab, as numbers. -/
structure Pt (pt : Nat → Nat) : Prop where
  lo : ∀ i, i < 9 → 1 ≤ pt i
  hi : ∀ i, i < 9 → pt i ≤ 26
  one : pt 1 = 3
  six : ∀ i, i < 9 → 2 ≤ i → 6 ≤ pt i
def vA (pt : Nat → Nat) (p : Int) : Nat := if 9 ≤ p then 27 else pt p.toNat
theorem vA_is {pt : Nat → Nat} (h : Pt pt) {p : Int} (hp : 0 ≤ p) : 1 ≤ vA pt p ∧ vA pt p ≤ 27 ∧ (p = 1 → vA pt p = 3) ∧ (2 ≤ p → 6 ≤ vA pt p) := by
  unfold vA
  split
  · omega
  · have h1 := h.lo p.toNat (by omega); have h2 := h.hi p.toNat (by omega)
    refine ⟨h1, by omega, fun e => by subst e; exact h.one, fun h3 => h.six _ (by omega) (by omega)⟩
noncomputable def dbA (pt : Nat → Nat) (ng : Bool) (s : DE) : Option DE := if 0 < s.2.2.2.1 then some (s.1 + (vA pt s.2.2.2.1 : Nat), shR ng (vA pt s.2.2.2.1) s.2) else none
open Classical in
noncomputable def dbB (pt : Nat → Nat) (ng : Bool) (s : DE) : Option DE := if s.2.2.2.1 < 0 ∨ (s.2.2.2.1 = 0 ∧ s.2.1 0 < 53) then some (s.1 - (vA pt (-s.2.2.2.1) : Nat), shL ng (vA pt (-s.2.2.2.1)) s.2) else none
structure AOk (s : DE) : Prop where
  ok : DOk s.2
  inv : InvA s.1 s.2.2.2.1 (s.2.1 0)
structure BOk (s : DE) : Prop where
  ok : DOk s.2
  inv : InvB s.1 s.2.2.2.1 (s.2.1 0)
theorem DOk.y {q : DS} (h : DOk q) : 49 ≤ q.1 0 ∧ q.1 0 ≤ 57 := by have h1 := h.dg 0 h.n1; have := h.x0; omega
theorem AOk.sh {s : DE} (h : AOk s) (k : Nat) (h1 : 1 ≤ k) (h2 : k ≤ 60) : ShOk k s.2 := by
  obtain ⟨_, _, _, _, _, a6, a7⟩ := h.inv
  exact ⟨h.ok, h1, h2, by omega, by omega⟩
theorem BOk.sh {s : DE} (h : BOk s) (k : Nat) (h1 : 1 ≤ k) (h2 : k ≤ 60) : ShOk k s.2 := by
  obtain ⟨_, _, _, a6, a7⟩ := h.inv
  exact ⟨h.ok, h1, h2, by omega, by omega⟩
theorem AOk.go {pt : Nat → Nat} (hpt : Pt pt) {ng : Bool} {s t : DE} (h : AOk s) (e : dbA pt ng s = some t) : AOk t ∧ 10 * t.2.2.2.1.toNat + t.2.1 0 < 10 * s.2.2.2.1.toNat + s.2.1 0 := by
  unfold dbA at e
  split at e
  · rename_i hp
    obtain ⟨v1, v2, v3, v4⟩ := vA_is hpt (p := s.2.2.2.1) (by omega)
    generalize vA pt s.2.2.2.1 = v at e v1 v2 v3 v4
    obtain ⟨⟨b1, b2, b3, b4⟩, _⟩ := shR_is (h.sh v v1 (by omega)) (ng := ng) rfl
    obtain ⟨y1, y2⟩ := h.ok.y
    have hS := stepA h.inv (by omega) v1 v2 v3 v4 y1 y2 b1.y.2 b2 b3 b4
    cases e
    exact ⟨⟨b1, hS.1⟩, hS.2⟩
  · cases e
theorem BOk.go {pt : Nat → Nat} (hpt : Pt pt) {ng : Bool} {s t : DE} (h : BOk s) (e : dbB pt ng s = some t) : BOk t ∧ (1 - t.2.2.2.1).toNat * 10 + (57 - t.2.1 0) < (1 - s.2.2.2.1).toNat * 10 + (57 - s.2.1 0) := by
  unfold dbB at e
  split at e
  · rename_i hp
    obtain ⟨v1, v2, v3, v4⟩ := vA_is hpt (p := -s.2.2.2.1) (by omega)
    generalize vA pt (-s.2.2.2.1) = v at e v1 v2 v3 v4
    obtain ⟨⟨b1, a, b2, b3, b4⟩, _⟩ := shL_is (h.sh v v1 (by omega)) (ng := ng) rfl
    obtain ⟨y1, y2⟩ := h.ok.y
    obtain ⟨z1, z2⟩ := b1.y
    have hS := stepB h.inv hp v1 v2 y1 y2 z1 z2 b3 b4
    rw [← b2] at hS
    cases e
    exact ⟨⟨b1, hS.1⟩, hS.2⟩
  · cases e
theorem AOk.toB {s : DE} (h : AOk s) (hp : s.2.2.2.1 ≤ 0) : BOk s := ⟨h.ok, stepAB h.inv hp h.ok.y.1⟩
end Go.Proofs.YtfkecmlmnhbmoaaGreatDoor
