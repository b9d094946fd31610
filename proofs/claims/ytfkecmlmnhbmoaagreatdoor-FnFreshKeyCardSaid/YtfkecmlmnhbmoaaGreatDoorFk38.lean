import Derived.Test.YtfkecmlmnhbmoaaGreatDoorFk35
import Derived.Test.YtfkecmlmnhbmoaaGreatDoorFk37
import Derived.Test.YtfkecmlmnhbmoaaGreatDoorFk10
import Derived.Test.YtfkecmlmnhbmoaaGreatDoorFk16
import Derived.Laws.BytesArg
import Derived.Laws.MakeOwn
namespace Go.Proofs.YtfkecmlmnhbmoaaGreatDoor
open Go.RowKit
def i1F (x : Nat → Nat) (n : Nat) (dp : Int) (s : Nat × Int) : Option (Nat × Int) := if (s.1 : Int) < dp ∧ s.1 < n then some (s.1 + 1, IntKind.u64.wrap (IntKind.u64.wrap (s.2 * 10) + ((x s.1 : Int) - 48))) else none
def i2F (dp : Int) (s : Nat × Int) : Option (Nat × Int) := if (s.1 : Int) < dp then some (s.1 + 1, IntKind.u64.wrap (s.2 * 10)) else none
structure IR (s : Nat × Int) : Prop where
  u : U s.2
  j : s.1 ≤ 20
theorem IR.go1 {x : Nat → Nat} {n : Nat} {dp : Int} (hdp : dp ≤ 20) {s t : Nat × Int} (_ : IR s) (e : i1F x n dp s = some t) : IR t ∧ 21 - t.1 < 21 - s.1 := by
  unfold i1F at e
  split at e
  · rename_i h
    cases e
    exact ⟨⟨U_wrap _, by dsimp only; omega⟩, by dsimp only; omega⟩
  · cases e
theorem IR.go2 {dp : Int} (hdp : dp ≤ 20) {s t : Nat × Int} (_ : IR s) (e : i2F dp s = some t) : IR t ∧ 21 - t.1 < 21 - s.1 := by
  unfold i2F at e
  split at e
  · rename_i h
    cases e
    exact ⟨⟨U_wrap _, by dsimp only; omega⟩, by dsimp only; omega⟩
  · cases e
set_option maxRecDepth 100000 in
set_option maxHeartbeats 4000000 in
theorem drintF (x : Nat → Nat) (n : Nat) (dp : Int) (ng tr : Bool) (h8 : n ≤ 800) (hd : Dg x n) : ∃ r : Int, U r ∧ ∀ (B : Nat) (w : World), Dec w B x n dp ng tr →
    Calls Tryz.prog 230 #[.pointer (some ⟨B, 0, none⟩)] w fun e w' => e = .returned (.int .u64 r) ∧ ∃ k, w' = w.drewN k := by
  by_cases hbig : 20 < dp
  · apply Exists.intro
    apply And.intro
    rotate_left 1
    · intro B w hD
      have cP := hD.p
      have cN := hD.n
      go_enter Tryz.func230, Tryz.ntmps230
      go_wp2_with fail
      go_ret
      exact ⟨rfl, 0, rfl⟩
    exact ⟨by omega, by omega⟩
  · obtain ⟨t1, hT1, hI1, _⟩ := Tr.ends (f := i1F x n dp) (fun s => 21 - s.1) IR (fun s t hs e => IR.go1 (by omega) hs e) _ (0, 0) (Nat.le_refl _) ⟨⟨by decide, by decide⟩, by decide⟩
    obtain ⟨t2, hT2, hI2, _⟩ := Tr.ends (f := i2F dp) (fun s => 21 - s.1) IR (fun s t hs e => IR.go2 (by omega) hs e) _ t1 (Nat.le_refl _) hI1
    obtain ⟨b, hS⟩ := dshouldF x n dp ng tr dp h8 hd
    refine ⟨if b then IntKind.u64.wrap (t2.2 + 1) else t2.2, by cases b; exact hI2.u; exact U_wrap _, fun B w hD => ?_⟩
    have cP := hD.p
    have cN := hD.n
    have HT1 := Lib.hid hT1; have HT2 := Lib.hid hT2; have HSH := Lib.hid hS; clear hT1 hT2 hS hI1 hI2
    go_enter Tryz.func230, Tryz.ntmps230
    go_wp2_with fail
    go_loop [3, 4] (fun vi vn => ∃ (j : Nat) (r : Int), vi = .int .i64 j ∧ vn = .int .u64 r ∧ U r ∧ j ≤ 20 ∧ Tr (i1F x n dp) (j, r) t1) (fun vi _ => 21 - (intOf vi).toNat)
    case atStart => exact ⟨0, 0, rfl, rfl, ⟨by omega, by omega⟩, by omega, HT1.out⟩
    case round =>
      obtain ⟨j, r, rfl, rfl, ⟨r1, r2⟩, hj, hT⟩ := hrel
      have HTT := Lib.hid hT; clear hT
      by_cases h1 : (j : Int) < dp
      · by_cases h2 : j < n
        · have HTN := Lib.hid (HTT.out.next (show i1F x n dp (j, r) = some (j + 1, IntKind.u64.wrap (IntKind.u64.wrap (r * 10) + ((x j : Int) - 48))) from if_pos ⟨h1, h2⟩))
          have cJ := hD.dig j (by omega)
          obtain ⟨d1, d2⟩ := hd j h2
          go_wp2_with fail
          exact ⟨⟨j + 1, _, by go_num, rfl, U_wrap _, by omega, HTN.out⟩, by simp [intOf]; omega⟩
        · have hno : ¬ ((j : Int) < dp ∧ j < n) := fun h => h2 h.2
          have hte := HTT.out.last (show i1F x n dp (j, r) = none from if_neg hno)
          subst hte
          go_wp2_with fail
          go_loop [3, 4] (fun vi vn => ∃ (j : Nat) (r : Int), vi = .int .i64 j ∧ vn = .int .u64 r ∧ U r ∧ j ≤ 20 ∧ Tr (i2F dp) (j, r) t2) (fun vi _ => 21 - (intOf vi).toNat)
          case atStart => exact ⟨j, r, rfl, rfl, ⟨r1, r2⟩, hj, HT2.out⟩
          case round =>
            clear r1 r2 hj
            obtain ⟨j, r, rfl, rfl, ⟨r1, r2⟩, hj, hT⟩ := hrel
            have HTT := Lib.hid hT; clear hT
            by_cases h3 : (j : Int) < dp
            · have HTN := Lib.hid (HTT.out.next (show i2F dp (j, r) = some (j + 1, IntKind.u64.wrap (r * 10)) from if_pos h3))
              go_wp2_with fail
              exact ⟨⟨j + 1, _, by go_num, rfl, U_wrap _, by omega, HTN.out⟩, by simp [intOf]; omega⟩
            · have hte := HTT.out.last (show i2F dp (j, r) = none from if_neg h3)
              subst hte
              go_wp2_with fail
              refine (HSH.out _ _ hD).mono ?_
              rintro en w' ⟨rfl, k, rfl⟩
              cases b
              · go_wp2_with fail
                go_ret
                exact ⟨rfl, k, rfl⟩
              · go_wp2_with fail
                go_ret
                exact ⟨rfl, k, rfl⟩
      · have hno : ¬ ((j : Int) < dp ∧ j < n) := fun h => h1 h.1
        have hte := HTT.out.last (show i1F x n dp (j, r) = none from if_neg hno)
        subst hte
        go_wp2_with fail
        go_loop [3, 4] (fun vi vn => ∃ (j : Nat) (r : Int), vi = .int .i64 j ∧ vn = .int .u64 r ∧ U r ∧ j ≤ 20 ∧ Tr (i2F dp) (j, r) t2) (fun vi _ => 21 - (intOf vi).toNat)
        case atStart => exact ⟨j, r, rfl, rfl, ⟨r1, r2⟩, hj, HT2.out⟩
        case round =>
          clear r1 r2 hj
          obtain ⟨j, r, rfl, rfl, ⟨r1, r2⟩, hj, hT⟩ := hrel
          have HTT := Lib.hid hT; clear hT
          by_cases h3 : (j : Int) < dp
          · have HTN := Lib.hid (HTT.out.next (show i2F dp (j, r) = some (j + 1, IntKind.u64.wrap (r * 10)) from if_pos h3))
            go_wp2_with fail
            exact ⟨⟨j + 1, _, by go_num, rfl, U_wrap _, by omega, HTN.out⟩, by simp [intOf]; omega⟩
          · have hte := HTT.out.last (show i2F dp (j, r) = none from if_neg h3)
            subst hte
            go_wp2_with fail
            refine (HSH.out _ _ hD).mono ?_
            rintro en w' ⟨rfl, k, rfl⟩
            cases b
            · go_wp2_with fail
              go_ret
              exact ⟨rfl, k, rfl⟩
            · go_wp2_with fail
              go_ret
              exact ⟨rfl, k, rfl⟩
end Go.Proofs.YtfkecmlmnhbmoaaGreatDoor
