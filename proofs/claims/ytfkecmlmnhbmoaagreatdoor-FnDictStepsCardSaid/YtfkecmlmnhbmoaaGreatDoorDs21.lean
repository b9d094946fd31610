import Derived.Test.YtfkecmlmnhbmoaaGreatDoorDs20
import Derived.ScopeJumps
namespace Go.Proofs.YtfkecmlmnhbmoaaGreatDoor
open Go.RowKit
/-- A scope from which the run jumps forward, to one label, once. -/
theorem wp_scope_fwd {P : Program} {a : Act} {w : World} {Q : Exit → Act → World → Prop} {c rest : Code} (l : Nat) (hf : findLabel c l = some rest)
    (first : c.wp P (Exit.jump l (fun a w => rest.wp P (Exit.jump l (fun _ _ => False) Q) a w) Q) a w) : (Code.scope c).wp P Q a w :=
  wp_scope_jumps l _ (fun _ _ => 0) hf first (fun a w h => wp_mono h (fun e a w q => by cases e <;> first | exact q | exact q.2.elim))
theorem neg27 : (-27 : Int) = -((27 : Nat) : Int) := rfl
set_option maxRecDepth 100000 in
set_option maxHeartbeats 8000000 in
theorem dbits (B N : Nat) (x : Nat → Nat) (nd : Nat) (dp : Int) (ng : Bool) (w : World) (ht : Tabs N w) (hp : PowT N w) (hch : Cheat N w) (hN : N ≤ B) (hD : Dec w B x nd dp ng false) (hd : Dg x nd) (h8 : nd ≤ 60) (h0 : 1 ≤ nd → x 0 ≠ 48) (hp1 : -60 ≤ dp) (hp2 : dp ≤ 37) :
    Calls Tryz.prog 187 #[.pointer (some ⟨B, 0, none⟩), .pointer (some ⟨18, 0, none⟩)] w fun e w' => RetUB e ∧ Kept [B] w w' := by
  have cN := hD.n; have cP := hD.p; have cG := hD.g
  have i0 := ht.info0; have i1 := ht.info1; have i2 := ht.info2
  have hNw : N ≤ w.heap.size := Nat.le_trans hN (Nat.le_of_lt hD.lt)
  by_cases hn : nd = 0
  · subst hn
    go_enter Tryz.func187, Tryz.ntmps187
    go_wp2_with fail
    refine wp_scope_fwd 0 rfl ?_
    go_wp2_with fail
    go_step3
    have hK := Kept.refl [B] w
    refine ⟨rfl, ?_⟩
    go_wp2_with fail
    go_region
    cases ng
    · go_wp2_with fail
      simp only [Exit.jump]
      show bodyPost Tryz.prog Tryz.f187 (fun e w' => RetUB e ∧ Kept [B] w w') _ _ _
      go_ret2
      exact ⟨⟨_, U_bits _ _ _, rfl⟩, hK.drew⟩
    · go_wp2_with fail
      go_region
      go_wp2_with fail
      simp only [Exit.jump]
      show bodyPost Tryz.prog Tryz.f187 (fun e w' => RetUB e ∧ Kept [B] w w') _ _ _
      go_ret2
      exact ⟨⟨_, U_bits _ _ _, rfl⟩, hK.drew.drew⟩
  · have zn : ((nd : Int) == 0) = false := beq_eq_false_iff_ne.2 (by omega)
    go_enter Tryz.func187, Tryz.ntmps187
    go_wp2_with fail
    refine wp_scope_fwd 0 rfl ?_
    go_wp2_with fail
    clear cN cP cG i0 i1 i2
    go_loopw [6] (fun ve wr => ∃ (ex : Int) (y : Nat → Nat) (n : Nat) (p : Int) (t : Bool), ve = .int .i64 ex ∧ Dec wr B y n p ng t ∧ Dg y n ∧ 1 ≤ n ∧ n ≤ 800 ∧ y 0 ≠ 48 ∧ InvA ex p (y 0) ∧ Kept [B] w wr) (fun _ wr => 10 * (intOf ((wr.cell? ⟨B, 801, none⟩).getD default)).toNat + (intOf ((wr.cell? ⟨B, 0, none⟩).getD default)).toNat)
    case atStart => exact ⟨0, x, nd, dp, false, rfl, hD, hd, by omega, by omega, h0 (by omega), ⟨by omega, by omega, by omega, by omega, by omega, by omega, by omega⟩, Kept.refl _ _⟩
    case round =>
      clear hD hd h8 h0
      obtain ⟨ex, y, n, p, t, rfl, hD, hd, hn1, hn8, hy0, hI, hK⟩ := hrel
      have hy := hd 0 (by omega)
      have hex := hI.1; have hex2 := hI.2.2.2.2.1; have hpl := hI.2.2.2.2.2.1; have hpu := hI.2.2.2.2.2.2
      have HI := Lib.hid hI; clear hI
      have cP := hD.p
      have c0 := hD.dig 0 (by omega)
      by_cases hpos : 0 < p
      · obtain ⟨tb, tbo, htb, cT, hcT⟩ := (hp.kept hK hNw (by simpa using hN)).tp
        by_cases h9 : 9 ≤ p
        · have HT := Lib.hid hcT; clear hcT
          go_wp2_with fail
          go_region
          go_wp2_with fail
          rw [neg27]
          refine (dshift_r B y n p ng t 27 _ hD.drew hd hn1 hn8 hy0 (by omega) (by omega) (by omega) (by omega)).mono ?_
          rintro en w4 ⟨rfl, hK4, x4, nd4, dp4, tr4, hD4, hd4, m1, m2, x40, q1, q2, q3⟩
          have hy4 := hd4 0 (by omega)
          have hS := stepA HI.out (by omega) (v := 27) (by omega) (by omega) (by omega) (by omega) (by omega) (by omega) hy4.2 q1 q2 q3
          have HS := Lib.hid hS; clear hS q3
          go_wp2_with fail
          refine ⟨⟨ex + 27, x4, nd4, dp4, tr4, rfl, hD4, hd4, m1, m2, x40, HS.out.1, Kept.trans hK.drew hK4 (fun _ h => h) (fun _ h _ => h)⟩, ?_⟩
          have := HS.out.2
          rw [hD4.p, hD4.dig 0 (by omega), cP, c0]
          simp only [Option.getD_some, intOf, Int.toNat_natCast]
          exact this
        · obtain ⟨v, v1, v2, v3, v4, cv⟩ := hcT p.toNat (by omega)
          have HT := Lib.hid hcT; clear hcT
          go_wp2_with fail
          go_region
          go_wp2_with fail
          go_region
          go_wp2_with fail
          refine (dshift_r B y n p ng t v _ hD.drew.drew hd hn1 hn8 hy0 (by omega) (by omega) (by omega) (by omega)).mono ?_
          rintro en w4 ⟨rfl, hK4, x4, nd4, dp4, tr4, hD4, hd4, m1, m2, x40, q1, q2, q3⟩
          have hy4 := hd4 0 (by omega)
          have hS := stepA HI.out (by omega) (v := v) (by omega) (by omega) (by omega) (by omega) (by omega) (by omega) hy4.2 q1 q2 q3
          have HS := Lib.hid hS; clear hS q3
          go_wp2_with fail
          refine ⟨⟨ex + v, x4, nd4, dp4, tr4, rfl, hD4, hd4, m1, m2, x40, HS.out.1, Kept.trans hK.drew.drew hK4 (fun _ h => h) (fun _ h _ => h)⟩, ?_⟩
          have := HS.out.2
          rw [hD4.p, hD4.dig 0 (by omega), cP, c0]
          simp only [Option.getD_some, intOf, Int.toNat_natCast]
          exact this
      · go_wp2_with fail
        go_loopw [6] (fun ve wr => ∃ (ex : Int) (y : Nat → Nat) (n : Nat) (p : Int) (t : Bool), ve = .int .i64 ex ∧ Dec wr B y n p ng t ∧ Dg y n ∧ 1 ≤ n ∧ n ≤ 800 ∧ y 0 ≠ 48 ∧ InvB ex p (y 0) ∧ Kept [B] w wr) (fun _ wr => (1 - intOf ((wr.cell? ⟨B, 801, none⟩).getD default)).toNat * 10 + (57 - (intOf ((wr.cell? ⟨B, 0, none⟩).getD default)).toNat))
        case atStart => exact ⟨ex, y, n, p, t, rfl, hD, hd, hn1, hn8, hy0, stepAB HI.out (by omega) (by omega), hK⟩
        case round =>
          clear hD hd hn1 hn8 hy0 HI cP c0 hy hK hpos hex hex2 hpl hpu
          obtain ⟨ex, y, n, p, t, rfl, hD, hd, hn1, hn8, hy0, hI, hK⟩ := hrel
          have hy := hd 0 (by omega)
          have hex := hI.2.1; have hex2 := hI.2.2.1; have hpl := hI.2.2.2.1; have hpu := hI.2.2.2.2
          have HI := Lib.hid hI; clear hI
          have cP := hD.p
          have c0 := hD.dig 0 (by omega)
          by_cases hg : p < 0 ∨ (p = 0 ∧ y 0 < 53)
          · obtain ⟨tb, tbo, htb, cT, hcT⟩ := (hp.kept hK hNw (by simpa using hN)).tp
            have HG := Lib.hid hg
            rcases hg with hg1 | ⟨hg1, hg2⟩
            · by_cases h9 : 9 ≤ -p
              · have HT := Lib.hid hcT; clear hcT
                go_wp2_with fail
                go_region
                go_wp2_with fail
                refine (dshift_l B y n p ng t 27 N _ (hch.kept hK.drew hNw (by simpa using hN) ht.low) hN hD.drew hd hn1 hn8 hy0 (by omega) (by omega) (by omega) (by omega)).mono ?_
                rintro en w4 ⟨rfl, hK4, x4, nd4, a4, tr4, hD4, hd4, m1, m2, x40, q1, q2⟩
                have hy4 := hd4 0 (by omega)
                have hS := stepB HI.out HG.out (v := 27) (by omega) (by omega) (by omega) (by omega) (by omega) hy4.2 q1 q2
                have HS := Lib.hid hS; clear hS q2
                go_wp2_with fail
                refine ⟨⟨ex - 27, x4, nd4, p + a4, tr4, rfl, hD4, hd4, m1, m2, x40, HS.out.1, Kept.trans hK.drew hK4 (fun _ h => h) (fun _ h _ => h)⟩, ?_⟩
                have := HS.out.2
                rw [hD4.p, hD4.dig 0 (by omega), cP, c0]
                simp only [Option.getD_some, intOf, Int.toNat_natCast]
                exact this
              · obtain ⟨v, v1, v2, v3, v4, cv⟩ := hcT (-p).toNat (by omega)
                have HT := Lib.hid hcT; clear hcT
                go_wp2_with fail
                go_region
                go_wp2_with fail
                go_region
                go_wp2_with fail
                refine (dshift_l B y n p ng t v N _ (hch.kept hK.drew.drew hNw (by simpa using hN) ht.low) hN hD.drew.drew hd hn1 hn8 hy0 (by omega) (by omega) (by omega) (by omega)).mono ?_
                rintro en w4 ⟨rfl, hK4, x4, nd4, a4, tr4, hD4, hd4, m1, m2, x40, q1, q2⟩
                have hy4 := hd4 0 (by omega)
                have hS := stepB HI.out HG.out (v := v) (by omega) (by omega) (by omega) (by omega) (by omega) hy4.2 q1 q2
                have HS := Lib.hid hS; clear hS q2
                go_wp2_with fail
                refine ⟨⟨ex - v, x4, nd4, p + a4, tr4, rfl, hD4, hd4, m1, m2, x40, HS.out.1, Kept.trans hK.drew.drew hK4 (fun _ h => h) (fun _ h _ => h)⟩, ?_⟩
                have := HS.out.2
                rw [hD4.p, hD4.dig 0 (by omega), cP, c0]
                simp only [Option.getD_some, intOf, Int.toNat_natCast]
                exact this
            · subst hg1
              obtain ⟨v, v1, v2, v3, v4, cv⟩ := hcT 0 (by omega)
              rw [Nat.add_zero] at cv
              have HT := Lib.hid hcT; clear hcT
              go_wp2_with fail
              go_region
              go_wp2_with fail
              go_region
              go_wp2_with fail
              refine (dshift_l B y n 0 ng t v N _ (hch.kept hK.drew.drew hNw (by simpa using hN) ht.low) hN hD.drew.drew hd hn1 hn8 hy0 (by omega) (by omega) (by omega) (by omega)).mono ?_
              rintro en w4 ⟨rfl, hK4, x4, nd4, a4, tr4, hD4, hd4, m1, m2, x40, q1, q2⟩
              have hy4 := hd4 0 (by omega)
              have hS := stepB HI.out (.inr ⟨rfl, hg2⟩) (v := v) (by omega) (by omega) (by omega) (by omega) (by omega) hy4.2 q1 q2
              have HS := Lib.hid hS; clear hS q2
              go_wp2_with fail
              refine ⟨⟨ex - v, x4, nd4, 0 + a4, tr4, rfl, hD4, hd4, m1, m2, x40, HS.out.1, Kept.trans hK.drew.drew hK4 (fun _ h => h) (fun _ h _ => h)⟩, ?_⟩
              have := HS.out.2
              rw [hD4.p, hD4.dig 0 (by omega), cP, c0]
              simp only [Option.getD_some, intOf, Int.toNat_natCast]
              exact this
          · have H0 : (p = 0 ∧ 53 ≤ y 0) ∨ 0 < p := by omega
            have ht2 := ht.kept hK hNw (by simpa using hN)
            have i0 := ht2.info0; have i1 := ht2.info1; have i2 := ht2.info2
            clear hg
            by_cases hlow : ex - 1 < -1022
            · obtain ⟨k, hk⟩ : ∃ k : Nat, (k : Int) = -1022 - (ex - 1) := ⟨(-1022 - (ex - 1)).toNat, by omega⟩
              have hk5 : k ≤ 500000 := by omega
              have hk1 : 1 ≤ k := by omega
              have HK := Lib.hid hk; clear hk
              rcases H0 with ⟨rfl, h53⟩ | hp1
              · skip
                go_wp2_with fail
                rw [show -1022 - (ex - 1) = (k : Int) from HK.out.symm]
                refine (dshift_rn B y n 0 ng t k _ hD hd hn1 hn8 hy0 hk1 hk5 (by omega) (by omega)).mono ?_
                rintro en w4 ⟨rfl, hK4, x4, nd4, dp4, tr4, hD4, hd4, m1, m2, x40, q1, q2⟩
                have hK5 := Kept.trans hK hK4 (fun _ h => h) (fun _ h _ => h)
                have ht5 := ht.kept hK5 hNw (by simpa using hN)
                have i0 := ht5.info0; have i1 := ht5.info1; have i2 := ht5.info2
                have hb1 : ex - 1 + k ≤ 0 := by have := HK.out; omega
                have hb2 : -1022 ≤ ex - 1 + k := by have := HK.out; omega
                go_wp2_with fail
                go_region
                go_wp2_with fail
                refine (dshift_l B x4 nd4 dp4 ng tr4 53 N _ (hch.kept hK5.drew hNw (by simpa using hN) ht.low) hN hD4.drew hd4 m1 m2 x40 (by omega) (by omega) (by omega) (by omega)).mono ?_
                rintro en w5 ⟨rfl, hKs, x5, nd5, a5, tr5, hD5, hd5, b1, b2, b3, b4, b5⟩
                clear b5
                have hK6 := Kept.trans hK5.drew hKs (fun _ h => h) (fun _ h _ => h)
                have ht6 := ht.kept hK6 hNw (by simpa using hN)
                have j0 := ht6.info0; have j1 := ht6.info1; have j2 := ht6.info2
                have c6 := hD5.g
                go_wp2_with fail
                refine (drint B x5 nd5 _ ng tr5 _ hD5 b2 hd5).mono ?_
                rintro en w6 ⟨⟨r, ⟨r1, r2⟩, rfl⟩, k6, rfl⟩
                have hK7 := hK6.drewN k6
                have ht7 := ht6.kept ((Kept.refl [B] w5).drewN k6) (Nat.le_trans hNw hK6.size) (by simpa using hN)
                have j0 := ht7.info0; have j1 := ht7.info1; have j2 := ht7.info2
                have c7 := (hD5.drewN k6).g
                clear hD5 hKs ht6
                generalize w5.drewN k6 = w7 at hK7 ht7 j0 j1 j2 c7
                go_wp2_with fail
                · go_region
                  go_wp2_with fail
                  · go_step3
                    refine ⟨rfl, ?_⟩
                    go_wp2_with fail
                    go_region
                    cases ng
                    · go_wp2_with fail
                      simp only [Exit.jump]
                      show bodyPost Tryz.prog Tryz.f187 (fun e w' => RetUB e ∧ Kept [B] w w') _ _ _
                      go_ret2
                      exact ⟨⟨_, U_bits _ _ _, rfl⟩, hK7.drew.drew⟩
                    · go_wp2_with fail
                      go_region
                      go_wp2_with fail
                      simp only [Exit.jump]
                      show bodyPost Tryz.prog Tryz.f187 (fun e w' => RetUB e ∧ Kept [B] w w') _ _ _
                      go_ret2
                      exact ⟨⟨_, U_bits _ _ _, rfl⟩, hK7.drew.drew.drew⟩
                  · go_step3
                    refine ⟨rfl, ?_⟩
                    go_wp2_with fail
                    go_region
                    cases ng
                    · go_wp2_with fail
                      simp only [Exit.jump]
                      show bodyPost Tryz.prog Tryz.f187 (fun e w' => RetUB e ∧ Kept [B] w w') _ _ _
                      go_ret2
                      exact ⟨⟨_, U_bits _ _ _, rfl⟩, hK7.drew.drew⟩
                    · go_wp2_with fail
                      go_region
                      go_wp2_with fail
                      simp only [Exit.jump]
                      show bodyPost Tryz.prog Tryz.f187 (fun e w' => RetUB e ∧ Kept [B] w w') _ _ _
                      go_ret2
                      exact ⟨⟨_, U_bits _ _ _, rfl⟩, hK7.drew.drew.drew⟩
                · go_step3
                  refine ⟨rfl, ?_⟩
                  go_wp2_with fail
                  go_region
                  cases ng
                  · go_wp2_with fail
                    simp only [Exit.jump]
                    show bodyPost Tryz.prog Tryz.f187 (fun e w' => RetUB e ∧ Kept [B] w w') _ _ _
                    go_ret2
                    exact ⟨⟨_, U_bits _ _ _, rfl⟩, hK7.drew⟩
                  · go_wp2_with fail
                    go_region
                    go_wp2_with fail
                    simp only [Exit.jump]
                    show bodyPost Tryz.prog Tryz.f187 (fun e w' => RetUB e ∧ Kept [B] w w') _ _ _
                    go_ret2
                    exact ⟨⟨_, U_bits _ _ _, rfl⟩, hK7.drew.drew⟩
                · go_step3
                  refine ⟨rfl, ?_⟩
                  go_wp2_with fail
                  go_region
                  cases ng
                  · go_wp2_with fail
                    simp only [Exit.jump]
                    show bodyPost Tryz.prog Tryz.f187 (fun e w' => RetUB e ∧ Kept [B] w w') _ _ _
                    go_ret2
                    exact ⟨⟨_, U_bits _ _ _, rfl⟩, hK7.drew⟩
                  · go_wp2_with fail
                    go_region
                    go_wp2_with fail
                    simp only [Exit.jump]
                    show bodyPost Tryz.prog Tryz.f187 (fun e w' => RetUB e ∧ Kept [B] w w') _ _ _
                    go_ret2
                    exact ⟨⟨_, U_bits _ _ _, rfl⟩, hK7.drew.drew⟩
              · skip
                go_wp2_with fail
                rw [show -1022 - (ex - 1) = (k : Int) from HK.out.symm]
                refine (dshift_rn B y n p ng t k _ hD hd hn1 hn8 hy0 hk1 hk5 (by omega) (by omega)).mono ?_
                rintro en w4 ⟨rfl, hK4, x4, nd4, dp4, tr4, hD4, hd4, m1, m2, x40, q1, q2⟩
                have hK5 := Kept.trans hK hK4 (fun _ h => h) (fun _ h _ => h)
                have ht5 := ht.kept hK5 hNw (by simpa using hN)
                have i0 := ht5.info0; have i1 := ht5.info1; have i2 := ht5.info2
                have hb1 : ex - 1 + k ≤ 0 := by have := HK.out; omega
                have hb2 : -1022 ≤ ex - 1 + k := by have := HK.out; omega
                go_wp2_with fail
                go_region
                go_wp2_with fail
                refine (dshift_l B x4 nd4 dp4 ng tr4 53 N _ (hch.kept hK5.drew hNw (by simpa using hN) ht.low) hN hD4.drew hd4 m1 m2 x40 (by omega) (by omega) (by omega) (by omega)).mono ?_
                rintro en w5 ⟨rfl, hKs, x5, nd5, a5, tr5, hD5, hd5, b1, b2, b3, b4, b5⟩
                clear b5
                have hK6 := Kept.trans hK5.drew hKs (fun _ h => h) (fun _ h _ => h)
                have ht6 := ht.kept hK6 hNw (by simpa using hN)
                have j0 := ht6.info0; have j1 := ht6.info1; have j2 := ht6.info2
                have c6 := hD5.g
                go_wp2_with fail
                refine (drint B x5 nd5 _ ng tr5 _ hD5 b2 hd5).mono ?_
                rintro en w6 ⟨⟨r, ⟨r1, r2⟩, rfl⟩, k6, rfl⟩
                have hK7 := hK6.drewN k6
                have ht7 := ht6.kept ((Kept.refl [B] w5).drewN k6) (Nat.le_trans hNw hK6.size) (by simpa using hN)
                have j0 := ht7.info0; have j1 := ht7.info1; have j2 := ht7.info2
                have c7 := (hD5.drewN k6).g
                clear hD5 hKs ht6
                generalize w5.drewN k6 = w7 at hK7 ht7 j0 j1 j2 c7
                go_wp2_with fail
                · go_region
                  go_wp2_with fail
                  · go_step3
                    refine ⟨rfl, ?_⟩
                    go_wp2_with fail
                    go_region
                    cases ng
                    · go_wp2_with fail
                      simp only [Exit.jump]
                      show bodyPost Tryz.prog Tryz.f187 (fun e w' => RetUB e ∧ Kept [B] w w') _ _ _
                      go_ret2
                      exact ⟨⟨_, U_bits _ _ _, rfl⟩, hK7.drew.drew⟩
                    · go_wp2_with fail
                      go_region
                      go_wp2_with fail
                      simp only [Exit.jump]
                      show bodyPost Tryz.prog Tryz.f187 (fun e w' => RetUB e ∧ Kept [B] w w') _ _ _
                      go_ret2
                      exact ⟨⟨_, U_bits _ _ _, rfl⟩, hK7.drew.drew.drew⟩
                  · go_step3
                    refine ⟨rfl, ?_⟩
                    go_wp2_with fail
                    go_region
                    cases ng
                    · go_wp2_with fail
                      simp only [Exit.jump]
                      show bodyPost Tryz.prog Tryz.f187 (fun e w' => RetUB e ∧ Kept [B] w w') _ _ _
                      go_ret2
                      exact ⟨⟨_, U_bits _ _ _, rfl⟩, hK7.drew.drew⟩
                    · go_wp2_with fail
                      go_region
                      go_wp2_with fail
                      simp only [Exit.jump]
                      show bodyPost Tryz.prog Tryz.f187 (fun e w' => RetUB e ∧ Kept [B] w w') _ _ _
                      go_ret2
                      exact ⟨⟨_, U_bits _ _ _, rfl⟩, hK7.drew.drew.drew⟩
                · go_step3
                  refine ⟨rfl, ?_⟩
                  go_wp2_with fail
                  go_region
                  cases ng
                  · go_wp2_with fail
                    simp only [Exit.jump]
                    show bodyPost Tryz.prog Tryz.f187 (fun e w' => RetUB e ∧ Kept [B] w w') _ _ _
                    go_ret2
                    exact ⟨⟨_, U_bits _ _ _, rfl⟩, hK7.drew⟩
                  · go_wp2_with fail
                    go_region
                    go_wp2_with fail
                    simp only [Exit.jump]
                    show bodyPost Tryz.prog Tryz.f187 (fun e w' => RetUB e ∧ Kept [B] w w') _ _ _
                    go_ret2
                    exact ⟨⟨_, U_bits _ _ _, rfl⟩, hK7.drew.drew⟩
                · go_step3
                  refine ⟨rfl, ?_⟩
                  go_wp2_with fail
                  go_region
                  cases ng
                  · go_wp2_with fail
                    simp only [Exit.jump]
                    show bodyPost Tryz.prog Tryz.f187 (fun e w' => RetUB e ∧ Kept [B] w w') _ _ _
                    go_ret2
                    exact ⟨⟨_, U_bits _ _ _, rfl⟩, hK7.drew⟩
                  · go_wp2_with fail
                    go_region
                    go_wp2_with fail
                    simp only [Exit.jump]
                    show bodyPost Tryz.prog Tryz.f187 (fun e w' => RetUB e ∧ Kept [B] w w') _ _ _
                    go_ret2
                    exact ⟨⟨_, U_bits _ _ _, rfl⟩, hK7.drew.drew⟩
            · rcases H0 with ⟨rfl, h53⟩ | hp1
              · skip
                go_wp2_with fail
                go_region
                go_wp2_with fail
                refine (dshift_l B y n 0 ng t 53 N _ (hch.kept hK.drew hNw (by simpa using hN) ht.low) hN hD.drew hd hn1 hn8 hy0 (by omega) (by omega) (by omega) (by omega)).mono ?_
                rintro en w5 ⟨rfl, hKs, x5, nd5, a5, tr5, hD5, hd5, b1, b2, b3, b4, b5⟩
                clear b5
                have hK6 := Kept.trans hK.drew hKs (fun _ h => h) (fun _ h _ => h)
                have ht6 := ht.kept hK6 hNw (by simpa using hN)
                have j0 := ht6.info0; have j1 := ht6.info1; have j2 := ht6.info2
                have c6 := hD5.g
                go_wp2_with fail
                refine (drint B x5 nd5 _ ng tr5 _ hD5 b2 hd5).mono ?_
                rintro en w6 ⟨⟨r, ⟨r1, r2⟩, rfl⟩, k6, rfl⟩
                have hK7 := hK6.drewN k6
                have ht7 := ht6.kept ((Kept.refl [B] w5).drewN k6) (Nat.le_trans hNw hK6.size) (by simpa using hN)
                have j0 := ht7.info0; have j1 := ht7.info1; have j2 := ht7.info2
                have c7 := (hD5.drewN k6).g
                clear hD5 hKs ht6
                generalize w5.drewN k6 = w7 at hK7 ht7 j0 j1 j2 c7
                go_wp2_with fail
                · go_region
                  go_wp2_with fail
                  · go_step3
                    refine ⟨rfl, ?_⟩
                    go_wp2_with fail
                    go_region
                    cases ng
                    · go_wp2_with fail
                      simp only [Exit.jump]
                      show bodyPost Tryz.prog Tryz.f187 (fun e w' => RetUB e ∧ Kept [B] w w') _ _ _
                      go_ret2
                      exact ⟨⟨_, U_bits _ _ _, rfl⟩, hK7.drew.drew⟩
                    · go_wp2_with fail
                      go_region
                      go_wp2_with fail
                      simp only [Exit.jump]
                      show bodyPost Tryz.prog Tryz.f187 (fun e w' => RetUB e ∧ Kept [B] w w') _ _ _
                      go_ret2
                      exact ⟨⟨_, U_bits _ _ _, rfl⟩, hK7.drew.drew.drew⟩
                  · go_step3
                    refine ⟨rfl, ?_⟩
                    go_wp2_with fail
                    go_region
                    cases ng
                    · go_wp2_with fail
                      simp only [Exit.jump]
                      show bodyPost Tryz.prog Tryz.f187 (fun e w' => RetUB e ∧ Kept [B] w w') _ _ _
                      go_ret2
                      exact ⟨⟨_, U_bits _ _ _, rfl⟩, hK7.drew.drew⟩
                    · go_wp2_with fail
                      go_region
                      go_wp2_with fail
                      simp only [Exit.jump]
                      show bodyPost Tryz.prog Tryz.f187 (fun e w' => RetUB e ∧ Kept [B] w w') _ _ _
                      go_ret2
                      exact ⟨⟨_, U_bits _ _ _, rfl⟩, hK7.drew.drew.drew⟩
                · go_step3
                  refine ⟨rfl, ?_⟩
                  go_wp2_with fail
                  go_region
                  cases ng
                  · go_wp2_with fail
                    simp only [Exit.jump]
                    show bodyPost Tryz.prog Tryz.f187 (fun e w' => RetUB e ∧ Kept [B] w w') _ _ _
                    go_ret2
                    exact ⟨⟨_, U_bits _ _ _, rfl⟩, hK7.drew⟩
                  · go_wp2_with fail
                    go_region
                    go_wp2_with fail
                    simp only [Exit.jump]
                    show bodyPost Tryz.prog Tryz.f187 (fun e w' => RetUB e ∧ Kept [B] w w') _ _ _
                    go_ret2
                    exact ⟨⟨_, U_bits _ _ _, rfl⟩, hK7.drew.drew⟩
                · go_step3
                  refine ⟨rfl, ?_⟩
                  go_wp2_with fail
                  go_region
                  cases ng
                  · go_wp2_with fail
                    simp only [Exit.jump]
                    show bodyPost Tryz.prog Tryz.f187 (fun e w' => RetUB e ∧ Kept [B] w w') _ _ _
                    go_ret2
                    exact ⟨⟨_, U_bits _ _ _, rfl⟩, hK7.drew⟩
                  · go_wp2_with fail
                    go_region
                    go_wp2_with fail
                    simp only [Exit.jump]
                    show bodyPost Tryz.prog Tryz.f187 (fun e w' => RetUB e ∧ Kept [B] w w') _ _ _
                    go_ret2
                    exact ⟨⟨_, U_bits _ _ _, rfl⟩, hK7.drew.drew⟩
              · skip
                go_wp2_with fail
                go_region
                go_wp2_with fail
                refine (dshift_l B y n p ng t 53 N _ (hch.kept hK.drew hNw (by simpa using hN) ht.low) hN hD.drew hd hn1 hn8 hy0 (by omega) (by omega) (by omega) (by omega)).mono ?_
                rintro en w5 ⟨rfl, hKs, x5, nd5, a5, tr5, hD5, hd5, b1, b2, b3, b4, b5⟩
                clear b5
                have hK6 := Kept.trans hK.drew hKs (fun _ h => h) (fun _ h _ => h)
                have ht6 := ht.kept hK6 hNw (by simpa using hN)
                have j0 := ht6.info0; have j1 := ht6.info1; have j2 := ht6.info2
                have c6 := hD5.g
                go_wp2_with fail
                refine (drint B x5 nd5 _ ng tr5 _ hD5 b2 hd5).mono ?_
                rintro en w6 ⟨⟨r, ⟨r1, r2⟩, rfl⟩, k6, rfl⟩
                have hK7 := hK6.drewN k6
                have ht7 := ht6.kept ((Kept.refl [B] w5).drewN k6) (Nat.le_trans hNw hK6.size) (by simpa using hN)
                have j0 := ht7.info0; have j1 := ht7.info1; have j2 := ht7.info2
                have c7 := (hD5.drewN k6).g
                clear hD5 hKs ht6
                generalize w5.drewN k6 = w7 at hK7 ht7 j0 j1 j2 c7
                go_wp2_with fail
                · go_region
                  go_wp2_with fail
                  · go_step3
                    refine ⟨rfl, ?_⟩
                    go_wp2_with fail
                    go_region
                    cases ng
                    · go_wp2_with fail
                      simp only [Exit.jump]
                      show bodyPost Tryz.prog Tryz.f187 (fun e w' => RetUB e ∧ Kept [B] w w') _ _ _
                      go_ret2
                      exact ⟨⟨_, U_bits _ _ _, rfl⟩, hK7.drew.drew⟩
                    · go_wp2_with fail
                      go_region
                      go_wp2_with fail
                      simp only [Exit.jump]
                      show bodyPost Tryz.prog Tryz.f187 (fun e w' => RetUB e ∧ Kept [B] w w') _ _ _
                      go_ret2
                      exact ⟨⟨_, U_bits _ _ _, rfl⟩, hK7.drew.drew.drew⟩
                  · go_step3
                    refine ⟨rfl, ?_⟩
                    go_wp2_with fail
                    go_region
                    cases ng
                    · go_wp2_with fail
                      simp only [Exit.jump]
                      show bodyPost Tryz.prog Tryz.f187 (fun e w' => RetUB e ∧ Kept [B] w w') _ _ _
                      go_ret2
                      exact ⟨⟨_, U_bits _ _ _, rfl⟩, hK7.drew.drew⟩
                    · go_wp2_with fail
                      go_region
                      go_wp2_with fail
                      simp only [Exit.jump]
                      show bodyPost Tryz.prog Tryz.f187 (fun e w' => RetUB e ∧ Kept [B] w w') _ _ _
                      go_ret2
                      exact ⟨⟨_, U_bits _ _ _, rfl⟩, hK7.drew.drew.drew⟩
                · go_step3
                  refine ⟨rfl, ?_⟩
                  go_wp2_with fail
                  go_region
                  cases ng
                  · go_wp2_with fail
                    simp only [Exit.jump]
                    show bodyPost Tryz.prog Tryz.f187 (fun e w' => RetUB e ∧ Kept [B] w w') _ _ _
                    go_ret2
                    exact ⟨⟨_, U_bits _ _ _, rfl⟩, hK7.drew⟩
                  · go_wp2_with fail
                    go_region
                    go_wp2_with fail
                    simp only [Exit.jump]
                    show bodyPost Tryz.prog Tryz.f187 (fun e w' => RetUB e ∧ Kept [B] w w') _ _ _
                    go_ret2
                    exact ⟨⟨_, U_bits _ _ _, rfl⟩, hK7.drew.drew⟩
                · go_step3
                  refine ⟨rfl, ?_⟩
                  go_wp2_with fail
                  go_region
                  cases ng
                  · go_wp2_with fail
                    simp only [Exit.jump]
                    show bodyPost Tryz.prog Tryz.f187 (fun e w' => RetUB e ∧ Kept [B] w w') _ _ _
                    go_ret2
                    exact ⟨⟨_, U_bits _ _ _, rfl⟩, hK7.drew⟩
                  · go_wp2_with fail
                    go_region
                    go_wp2_with fail
                    simp only [Exit.jump]
                    show bodyPost Tryz.prog Tryz.f187 (fun e w' => RetUB e ∧ Kept [B] w w') _ _ _
                    go_ret2
                    exact ⟨⟨_, U_bits _ _ _, rfl⟩, hK7.drew.drew⟩
end Go.Proofs.YtfkecmlmnhbmoaaGreatDoor
