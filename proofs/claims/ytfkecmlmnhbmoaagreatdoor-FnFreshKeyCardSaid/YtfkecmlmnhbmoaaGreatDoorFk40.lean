import Derived.Test.YtfkecmlmnhbmoaaGreatDoorFk39
import Derived.Test.YtfkecmlmnhbmoaaGreatDoorFk21
namespace Go.Proofs.YtfkecmlmnhbmoaaGreatDoor
open Go.RowKit
/-- The bits of a real. -/
def asmB (m e : Int) : Bool → Int
  | false => bits .or .u64 (bits .and .u64 m 4503599627370495) (IntKind.u64.wrap (IntKind.u64.wrap (bits .and .i64 e 2047) * 4503599627370496))
  | true => bits .or .u64 (bits .or .u64 (bits .and .u64 m 4503599627370495) (IntKind.u64.wrap (IntKind.u64.wrap (bits .and .i64 e 2047) * 4503599627370496))) 9223372036854775808
def finM (m e : Int) (ng : Bool) : Int := if (bits .and .u64 m 4503599627370496 == 0) = true then asmB m 0 ng else asmB m (e + 1023) ng
def finV (r e : Int) (ng : Bool) : Int := if (r == 9007199254740992) = true then finM (r / 2) (e + 1) ng else finM r e ng
theorem asmB_u (m e : Int) (ng : Bool) : U (asmB m e ng) := by cases ng <;> (unfold asmB; exact U_bits _ _ _)
theorem finV_u (r e : Int) (ng : Bool) : U (finV r e ng) := by
  unfold finV finM
  split <;> split <;> exact asmB_u _ _ _
theorem finV1 {r e : Int} {ng : Bool} (h : (r == 9007199254740992) = true) (k : (bits .and .u64 (r / 2) 4503599627370496 == 0) = true) : asmB (r / 2) 0 ng = finV r e ng := by
  unfold finV finM
  rw [if_pos h, if_pos k]
theorem finV2 {r e x : Int} {ng : Bool} (h : (r == 9007199254740992) = true) (k : (bits .and .u64 (r / 2) 4503599627370496 == 0) = false) (hx : x = e + 1 + 1023) : asmB (r / 2) x ng = finV r e ng := by
  subst hx
  unfold finV finM
  rw [if_pos h, if_neg (by rw [k]; decide)]
theorem finV3 {r e : Int} {ng : Bool} (h : (r == 9007199254740992) = false) (k : (bits .and .u64 r 4503599627370496 == 0) = true) : asmB r 0 ng = finV r e ng := by
  unfold finV finM
  rw [if_neg (by rw [h]; decide), if_pos k]
theorem finV4 {r e : Int} {ng : Bool} (h : (r == 9007199254740992) = false) (k : (bits .and .u64 r 4503599627370496 == 0) = false) : asmB r (e + 1023) ng = finV r e ng := by
  unfold finV finM
  rw [if_neg (by rw [h]; decide), if_neg (by rw [k]; decide)]
def RtUF (n : Int) : Ending := .returned (.tuple #[.int .u64 n, .bool false])
set_option maxRecDepth 100000 in
set_option maxHeartbeats 16000000 in
theorem dbitsF (N : Nat) (W0 : World) (ht0 : Tabs N W0) (hp0 : PowT N W0) (hc0 : Cheat N W0) (hN0 : N ≤ W0.heap.size) (x : Nat → Nat) (nd : Nat) (dp : Int) (ng : Bool) (hd : Dg x nd) (h8 : nd ≤ 60) (h0 : 1 ≤ nd → x 0 ≠ 48) (hp1 : -60 ≤ dp) (hp2 : dp ≤ 37) :
    ∃ RR : Int, U RR ∧ ∀ (B : Nat) (w : World), Kept [] W0 w → W0.heap.size ≤ B → Dec w B x nd dp ng false → Calls Tryz.prog 187 #[.pointer (some ⟨B, 0, none⟩), .pointer (some ⟨18, 0, none⟩)] w fun e w' => e = .returned (.tuple #[.int .u64 RR, .bool false]) ∧ Kept [B] w w' := by
  have hlow := hp0.low
  obtain ⟨tb, tbo, htb, hT0, hTv⟩ := hp0.tp
  obtain ⟨pt, hpt⟩ : ∃ pt : Nat → Nat, ∀ i, i < 9 → 1 ≤ pt i ∧ pt i ≤ 26 ∧ (i = 1 → pt i = 3) ∧ (2 ≤ i → 6 ≤ pt i) ∧ W0.cell? ⟨tb, tbo + i, none⟩ = some (.int .i64 (pt i : Nat)) :=
    ⟨fun i => if h : i < 9 then Classical.choose (hTv i h) else 0, fun i hi => by simp only [dif_pos hi]; exact Classical.choose_spec (hTv i hi)⟩
  have hPT : Pt pt := ⟨fun i hi => (hpt i hi).1, fun i hi => (hpt i hi).2.1, (hpt 1 (by decide)).2.2.1 rfl, fun i hi => (hpt i hi).2.2.2.1⟩
  have HCV := Lib.hid (fun i hi => (hpt i hi).2.2.2.2)
  have HTB := Lib.hid hT0
  clear hpt hTv hT0
  by_cases hn : nd = 0
  · subst hn
    refine ⟨asmB 0 0 ng, asmB_u _ _ _, ?_⟩
    intro B w hkw hNB hD
    have ht := hkw.tabs ht0 hN0
    have hNw : N ≤ w.heap.size := Nat.le_trans hN0 hkw.size
    have hN : N ≤ B := Nat.le_trans hN0 hNB
    have cN := hD.n; have cP := hD.p; have cG := hD.g
    have i0 := ht.info0; have i1 := ht.info1; have i2 := ht.info2
    have hch0 := hc0.kept hkw hN0 (by simp) hlow
    go_enter Tryz.func187, Tryz.ntmps187
    go_wp2_with fail
    refine wp_scope_fwd 0 rfl ?_
    go_wp2_with fail
    go_step3
    cases ng
    · skip
      refine ⟨rfl, ?_⟩
      go_wp2_with fail
      go_region
      go_wp2_with fail
      simp only [Exit.jump]
      show bodyPost Tryz.prog Tryz.f187 (fun e w' => e = .returned (.tuple #[.int .u64 (asmB 0 0 false), .bool false]) ∧ Kept [B] w w') _ _ _
      go_ret2
      exact ⟨rfl, (Kept.refl [B] w).drew⟩
    · skip
      refine ⟨rfl, ?_⟩
      go_wp2_with fail
      go_region
      go_wp2_with fail
      go_region
      go_wp2_with fail
      simp only [Exit.jump]
      show bodyPost Tryz.prog Tryz.f187 (fun e w' => e = .returned (.tuple #[.int .u64 (asmB 0 0 true), .bool false]) ∧ Kept [B] w w') _ _ _
      go_ret2
      exact ⟨rfl, (Kept.refl [B] w).drew.drew⟩
  · have hA0 : AOk (0, x, nd, dp, false) := ⟨⟨hd, by show 1 ≤ nd; omega, by show nd ≤ 800; omega, h0 (by omega)⟩, ⟨by dsimp only; omega, by dsimp only; omega, by dsimp only; omega, by dsimp only; omega, by dsimp only; omega, by dsimp only; omega, by dsimp only; omega⟩⟩
    obtain ⟨T1, hT1, hI1, hn1⟩ := Tr.ends (f := dbA pt ng) (fun s => 10 * s.2.2.2.1.toNat + s.2.1 0) AOk (fun s t hs e => hs.go hPT e) _ (0, x, nd, dp, false) (Nat.le_refl _) hA0
    have hT1p : T1.2.2.2.1 ≤ 0 := by
      unfold dbA at hn1
      split at hn1
      · cases hn1
      · omega
    obtain ⟨⟨ex2, y2, n2, p2, tr2⟩, hT2, hI2, hn2⟩ := Tr.ends (f := dbB pt ng) (fun s => (1 - s.2.2.2.1).toNat * 10 + (57 - s.2.1 0)) BOk (fun s t hs e => hs.go hPT e) _ T1 (Nat.le_refl _) (hI1.toB hT1p)
    have HPT := Lib.hid hPT; have HT1 := Lib.hid hT1; have HT2 := Lib.hid hT2; clear hPT hT1 hT2 hI1 hn1 hT1p
    have zn : ((nd : Int) == 0) = false := beq_eq_false_iff_ne.2 (by omega)
    have hg2 : ¬ (p2 < 0 ∨ (p2 = 0 ∧ y2 0 < 53)) := fun h => by
      unfold dbB at hn2; dsimp only at hn2; rw [if_pos h] at hn2; cases hn2
    have hok2 : DOk (y2, n2, p2, tr2) := hI2.ok
    have hy2 : 49 ≤ y2 0 ∧ y2 0 ≤ 57 := hok2.y
    have e1 : -243270 ≤ ex2 := hI2.inv.2.1; have e2 : ex2 ≤ 1002 := hI2.inv.2.2.1; have pl : -900 ≤ p2 := hI2.inv.2.2.2.1; have pu : p2 ≤ 37 := hI2.inv.2.2.2.2
    clear hn2 hI2
    by_cases hlw : ex2 - 1 < -1022
    · obtain ⟨k, hk⟩ : ∃ k : Nat, (k : Int) = -1022 - (ex2 - 1) := ⟨(-1022 - (ex2 - 1)).toNat, by omega⟩
      have hk5 : k ≤ 500000 := by omega
      have hk1 : 1 ≤ k := by omega
      obtain ⟨yy, nn, pp, tt, ⟨o1, o2, o3, o4, o5, o6⟩, hRN⟩ := dshift_rnF y2 n2 p2 ng tr2 k hok2.dg hok2.n1 hok2.n8 hok2.x0 hk1 hk5 (by omega) (by omega)
      obtain ⟨⟨y3, n3, p3, tr3⟩, hq⟩ : ∃ q', shL ng 53 (yy, nn, pp, tt) = q' := ⟨_, rfl⟩
      obtain ⟨⟨hok3, _⟩, hL⟩ := shL_is (k := 53) ⟨⟨o1, o2, o3, o4⟩, by decide, by decide, by dsimp only; omega, by dsimp only; omega⟩ hq
      obtain ⟨r, hr, hI⟩ := drintF y3 n3 p3 ng tr3 hok3.n8 hok3.dg
      have HL := Lib.hid hL; have HI := Lib.hid hI; have HRN := Lib.hid hRN; have HK := Lib.hid hk; clear hL hI hq hok3 hRN hk o1 o2 o3 o4 o5 o6
      refine ⟨finV r (ex2 - 1 + k) ng, finV_u _ _ _, ?_⟩
      intro B w hkw hNB hD
      have ht := hkw.tabs ht0 hN0
      have hNw : N ≤ w.heap.size := Nat.le_trans hN0 hkw.size
      have hN : N ≤ B := Nat.le_trans hN0 hNB
      have cN := hD.n; have cP := hD.p; have cG := hD.g
      have i0 := ht.info0; have i1 := ht.info1; have i2 := ht.info2
      have hch0 := hc0.kept hkw hN0 (by simp) hlow
      go_enter Tryz.func187, Tryz.ntmps187
      go_wp2_with fail
      refine wp_scope_fwd 0 rfl ?_
      go_wp2_with fail
      clear cN cP cG i0 i1 i2
      go_loopw [6] (fun ve wr => ∃ (ex : Int) (y : Nat → Nat) (n : Nat) (p : Int) (t : Bool), ve = .int .i64 ex ∧ Dec wr B y n p ng t ∧ AOk (ex, y, n, p, t) ∧ Tr (dbA pt ng) (ex, y, n, p, t) T1 ∧ Kept [B] w wr) (fun _ wr => 10 * (intOf ((wr.cell? ⟨B, 801, none⟩).getD default)).toNat + (intOf ((wr.cell? ⟨B, 0, none⟩).getD default)).toNat)
      case atStart => exact ⟨0, x, nd, dp, false, rfl, hD, hA0, HT1.out, Kept.refl _ _⟩
      case round =>
        clear hD
        obtain ⟨ex, y, n, p, t, rfl, hD, hI, hT, hK⟩ := hrel
        have hy : 49 ≤ y 0 ∧ y 0 ≤ 57 := hI.ok.y
        have hex : 0 ≤ ex := hI.inv.1; have hex2 : ex ≤ 1002 := hI.inv.2.2.2.2.1; have hpl : -900 ≤ p := hI.inv.2.2.2.2.2.1; have hpu : p ≤ 37 := hI.inv.2.2.2.2.2.2
        have HIN := Lib.hid hI; have HTT := Lib.hid hT; clear hI hT
        have hkr : Kept [] W0 wr := Kept.trans hkw hK (by simp) (fun z hz hl => by simp at hz; omega)
        have cP := hD.p
        have c0 := hD.dig 0 (by omega)
        have cT := hkr.cell (b := 22) (o := 0) (by omega) (by simp) |>.trans HTB.out
        by_cases hpos : 0 < p
        · by_cases h9 : 9 ≤ p
          · obtain ⟨⟨x4, nd4, dp4, tr4⟩, hq⟩ : ∃ q', shR ng 27 (y, n, p, t) = q' := ⟨_, rfl⟩
            have hRun := (shR_is (HIN.out.sh 27 (by decide) (by decide)) hq).2
            have hst : dbA pt ng (ex, y, n, p, t) = some (ex + 27, x4, nd4, dp4, tr4) := by
              unfold dbA vA; dsimp only; rw [if_pos hpos, if_pos h9, hq]; rfl
            have HI2 := Lib.hid (HIN.out.go HPT.out hst); have HT2 := Lib.hid (HTT.out.next hst); have HR := Lib.hid hRun
            clear hst hRun hq
            go_wp2_with fail
            go_region
            go_wp2_with fail
            rw [neg27]
            refine (HR.out B _ hD.drew).mono ?_
            rintro en w4 ⟨rfl, hK4, hD4⟩
            go_wp2_with fail
            refine ⟨⟨ex + 27, x4, nd4, dp4, tr4, rfl, hD4, HI2.out.1, HT2.out, Kept.trans hK.drew hK4 (fun _ h => h) (fun _ h _ => h)⟩, ?_⟩
            have := HI2.out.2
            try dsimp only at this
            try dsimp only at hD4
            rw [hD4.p, hD4.dig 0 (by omega), cP, c0]
            simp only [Option.getD_some, intOf, Int.toNat_natCast]
            exact this
          · have cv := (hkr.cell (b := tb) (o := tbo + p.toNat) (by omega) (by simp)).trans (HCV.out p.toNat (by omega))
            obtain ⟨v, hv⟩ : ∃ v, pt p.toNat = v := ⟨_, rfl⟩
            have v1 := HPT.out.lo p.toNat (by omega); have v2 := HPT.out.hi p.toNat (by omega)
            rw [hv] at cv v1 v2
            obtain ⟨⟨x4, nd4, dp4, tr4⟩, hq⟩ : ∃ q', shR ng v (y, n, p, t) = q' := ⟨_, rfl⟩
            have hRun := (shR_is (HIN.out.sh v v1 (by omega)) hq).2
            have hst : dbA pt ng (ex, y, n, p, t) = some (ex + v, x4, nd4, dp4, tr4) := by
              unfold dbA vA; dsimp only; rw [if_pos hpos, if_neg h9, hv, hq]
            have HI2 := Lib.hid (HIN.out.go HPT.out hst); have HT2 := Lib.hid (HTT.out.next hst); have HR := Lib.hid hRun
            clear hst hRun hq hv
            go_wp2_with fail
            go_region
            go_wp2_with fail
            go_region
            go_wp2_with fail
            refine (HR.out B _ hD.drew.drew).mono ?_
            rintro en w4 ⟨rfl, hK4, hD4⟩
            go_wp2_with fail
            refine ⟨⟨ex + v, x4, nd4, dp4, tr4, rfl, hD4, HI2.out.1, HT2.out, Kept.trans hK.drew.drew hK4 (fun _ h => h) (fun _ h _ => h)⟩, ?_⟩
            have := HI2.out.2
            try dsimp only at this
            try dsimp only at hD4
            rw [hD4.p, hD4.dig 0 (by omega), cP, c0]
            simp only [Option.getD_some, intOf, Int.toNat_natCast]
            exact this
        · have hte := HTT.out.last (show dbA pt ng (ex, y, n, p, t) = none from if_neg hpos)
          subst hte
          have hB0 : BOk (ex, y, n, p, t) := HIN.out.toB (by dsimp only; omega)
          have HB0 := Lib.hid hB0; clear hB0
          go_wp2_with fail
          go_loopw [6] (fun ve wr => ∃ (ex : Int) (y : Nat → Nat) (n : Nat) (p : Int) (t : Bool), ve = .int .i64 ex ∧ Dec wr B y n p ng t ∧ BOk (ex, y, n, p, t) ∧ Tr (dbB pt ng) (ex, y, n, p, t) (ex2, y2, n2, p2, tr2) ∧ Kept [B] w wr) (fun _ wr => (1 - intOf ((wr.cell? ⟨B, 801, none⟩).getD default)).toNat * 10 + (57 - (intOf ((wr.cell? ⟨B, 0, none⟩).getD default)).toNat))
          case atStart => exact ⟨ex, y, n, p, t, rfl, hD, HB0.out, HT2.out, hK⟩
          case round =>
            clear hD HIN cP c0 cT hy hK hpos hex hex2 hpl hpu hkr HB0 HTT
            obtain ⟨ex, y, n, p, t, rfl, hD, hI, hT, hK⟩ := hrel
            have hy : 49 ≤ y 0 ∧ y 0 ≤ 57 := hI.ok.y
            have hex : -243270 ≤ ex := hI.inv.2.1; have hex2 : ex ≤ 1002 := hI.inv.2.2.1; have hpl : -900 ≤ p := hI.inv.2.2.2.1; have hpu : p ≤ 37 := hI.inv.2.2.2.2
            have HIN := Lib.hid hI; have HTT := Lib.hid hT; clear hI hT
            have hkr : Kept [] W0 wr := Kept.trans hkw hK (by simp) (fun z hz hl => by simp at hz; omega)
            have cP := hD.p
            have c0 := hD.dig 0 (by omega)
            have cT := hkr.cell (b := 22) (o := 0) (by omega) (by simp) |>.trans HTB.out
            have hch := hc0.kept hkr hN0 (by simp) hlow
            by_cases hg : p < 0 ∨ (p = 0 ∧ y 0 < 53)
            · have HG := Lib.hid hg
              rcases hg with hg1 | ⟨hg1, hg2⟩
              · by_cases h9 : 9 ≤ -p
                · obtain ⟨⟨x4, nd4, dp4, tr4⟩, hq⟩ : ∃ q', shL ng 27 (y, n, p, t) = q' := ⟨_, rfl⟩
                  have hRun := (shL_is (HIN.out.sh 27 (by decide) (by decide)) hq).2
                  have hst : dbB pt ng (ex, y, n, p, t) = some (ex - 27, x4, nd4, dp4, tr4) := by
                    unfold dbB vA; dsimp only; rw [if_pos HG.out, if_pos h9, hq]; rfl
                  have HI2 := Lib.hid (HIN.out.go HPT.out hst); have HT2' := Lib.hid (HTT.out.next hst); have HR := Lib.hid hRun
                  clear hst hRun hq
                  go_wp2_with fail
                  go_region
                  go_wp2_with fail
                  refine (HR.out B N _ (hch.kept (Kept.refl [] wr).drew (Nat.le_trans hNw hK.size) (by simp) hlow) hN hD.drew).mono ?_
                  rintro en w4 ⟨rfl, hK4, hD4⟩
                  go_wp2_with fail
                  refine ⟨⟨ex - 27, x4, nd4, dp4, tr4, rfl, hD4, HI2.out.1, HT2'.out, Kept.trans hK.drew hK4 (fun _ h => h) (fun _ h _ => h)⟩, ?_⟩
                  have := HI2.out.2
                  try dsimp only at this
                  try dsimp only at hD4
                  rw [hD4.p, hD4.dig 0 (by omega), cP, c0]
                  simp only [Option.getD_some, intOf, Int.toNat_natCast]
                  exact this
                · have cv := (hkr.cell (b := tb) (o := tbo + (-p).toNat) (by omega) (by simp)).trans (HCV.out (-p).toNat (by omega))
                  obtain ⟨v, hv⟩ : ∃ v, pt (-p).toNat = v := ⟨_, rfl⟩
                  have v1 := HPT.out.lo (-p).toNat (by omega); have v2 := HPT.out.hi (-p).toNat (by omega)
                  rw [hv] at cv v1 v2
                  obtain ⟨⟨x4, nd4, dp4, tr4⟩, hq⟩ : ∃ q', shL ng v (y, n, p, t) = q' := ⟨_, rfl⟩
                  have hRun := (shL_is (HIN.out.sh v v1 (by omega)) hq).2
                  have hst : dbB pt ng (ex, y, n, p, t) = some (ex - v, x4, nd4, dp4, tr4) := by
                    unfold dbB vA; dsimp only; rw [if_pos HG.out, if_neg h9, hv, hq]
                  have HI2 := Lib.hid (HIN.out.go HPT.out hst); have HT2' := Lib.hid (HTT.out.next hst); have HR := Lib.hid hRun
                  clear hst hRun hq hv
                  go_wp2_with fail
                  go_region
                  go_wp2_with fail
                  go_region
                  go_wp2_with fail
                  refine (HR.out B N _ (hch.kept (Kept.refl [] wr).drew.drew (Nat.le_trans hNw hK.size) (by simp) hlow) hN hD.drew.drew).mono ?_
                  rintro en w4 ⟨rfl, hK4, hD4⟩
                  go_wp2_with fail
                  refine ⟨⟨ex - v, x4, nd4, dp4, tr4, rfl, hD4, HI2.out.1, HT2'.out, Kept.trans hK.drew.drew hK4 (fun _ h => h) (fun _ h _ => h)⟩, ?_⟩
                  have := HI2.out.2
                  try dsimp only at this
                  try dsimp only at hD4
                  rw [hD4.p, hD4.dig 0 (by omega), cP, c0]
                  simp only [Option.getD_some, intOf, Int.toNat_natCast]
                  exact this
              · subst hg1
                have cv := (hkr.cell (b := tb) (o := tbo + 0) (by omega) (by simp)).trans (HCV.out 0 (by omega))
                rw [Nat.add_zero] at cv
                obtain ⟨v, hv⟩ : ∃ v, pt 0 = v := ⟨_, rfl⟩
                have v1 := HPT.out.lo 0 (by omega); have v2 := HPT.out.hi 0 (by omega)
                rw [hv] at cv v1 v2
                obtain ⟨⟨x4, nd4, dp4, tr4⟩, hq⟩ : ∃ q', shL ng v (y, n, 0, t) = q' := ⟨_, rfl⟩
                have hRun := (shL_is (HIN.out.sh v v1 (by omega)) hq).2
                have hst : dbB pt ng (ex, y, n, 0, t) = some (ex - v, x4, nd4, dp4, tr4) := by
                  unfold dbB vA; dsimp only; rw [if_pos HG.out, if_neg (by decide), show (-(0 : Int)).toNat = 0 from rfl, hv, hq]
                have HI2 := Lib.hid (HIN.out.go HPT.out hst); have HT2' := Lib.hid (HTT.out.next hst); have HR := Lib.hid hRun
                clear hst hRun hq hv
                go_wp2_with fail
                go_region
                go_wp2_with fail
                go_region
                go_wp2_with fail
                refine (HR.out B N _ (hch.kept (Kept.refl [] wr).drew.drew (Nat.le_trans hNw hK.size) (by simp) hlow) hN hD.drew.drew).mono ?_
                rintro en w4 ⟨rfl, hK4, hD4⟩
                go_wp2_with fail
                refine ⟨⟨ex - v, x4, nd4, dp4, tr4, rfl, hD4, HI2.out.1, HT2'.out, Kept.trans hK.drew.drew hK4 (fun _ h => h) (fun _ h _ => h)⟩, ?_⟩
                have := HI2.out.2
                try dsimp only at this
                try dsimp only at hD4
                rw [hD4.p, hD4.dig 0 (by omega), cP, c0]
                simp only [Option.getD_some, intOf, Int.toNat_natCast]
                exact this
            · have hte := HTT.out.last (show dbB pt ng (ex, y, n, p, t) = none from if_neg hg)
              have H0 : (p = 0 ∧ 53 ≤ y 0) ∨ 0 < p := by omega
              clear HTT
              obtain ⟨rfl, rfl, rfl, rfl, rfl⟩ : ex = ex2 ∧ y = y2 ∧ n = n2 ∧ p = p2 ∧ t = tr2 := by cases hte; exact ⟨rfl, rfl, rfl, rfl, rfl⟩
              clear hte
              have ht2 := ht.kept hK hNw (by simpa using hN)
              have i0 := ht2.info0; have i1 := ht2.info1; have i2 := ht2.info2
              clear hg
              rcases H0 with ⟨rfl, h53⟩ | hp1
              · skip
                go_wp2_with fail
                rw [show -1022 - (ex - 1) = (k : Int) from HK.out.symm]
                refine (HRN.out B _ hD).mono ?_
                rintro en w4 ⟨rfl, hK4, hD4⟩
                have hK5 := Kept.trans hK hK4 (fun _ h => h) (fun _ h _ => h)
                have ht5 := ht.kept hK5 hNw (by simpa using hN)
                have i0 := ht5.info0; have i1 := ht5.info1; have i2 := ht5.info2
                have hb1 : ex - 1 + k ≤ 0 := by have := HK.out; omega
                have hb2 : -1022 ≤ ex - 1 + k := by have := HK.out; omega
                go_wp2_with fail
                go_region
                go_wp2_with fail
                refine (HL.out B N _ (hch0.kept hK5.drew hNw (by simpa using hN) ht.low) hN hD4.drew).mono ?_
                rintro en w5 ⟨rfl, hKs, hD5⟩
                have hK6 := Kept.trans hK5.drew hKs (fun _ h => h) (fun _ h _ => h)
                have ht6 := ht.kept hK6 hNw (by simpa using hN)
                have j0 := ht6.info0; have j1 := ht6.info1; have j2 := ht6.info2
                have c6 := hD5.g
                go_wp2_with fail
                refine (HI.out B _ hD5).mono ?_
                rintro en w6 ⟨rfl, k6, rfl⟩
                have hK7 := hK6.drewN k6
                have ht7 := ht6.kept ((Kept.refl [B] w5).drewN k6) (Nat.le_trans hNw hK6.size) (by simpa using hN)
                have j0 := ht7.info0; have j1 := ht7.info1; have j2 := ht7.info2
                have c7 := (hD5.drewN k6).g
                clear hD5 hKs ht6
                generalize w5.drewN k6 = w7 at hK7 ht7 j0 j1 j2 c7
                obtain ⟨r1, r2⟩ := hr
                go_wp2_with fail
                · go_region
                  go_wp2_with fail
                  · go_step3
                    refine ⟨rfl, ?_⟩
                    go_wp2_with fail
                    go_region
                    cases ng
                    · go_wp2_with fail
                      simp only [Exit.jump]
                      show bodyPost Tryz.prog Tryz.f187 (fun e w' => e = .returned (.tuple #[.int .u64 _, .bool false]) ∧ Kept [B] w w') _ _ _
                      go_ret2
                      refine ⟨?_, hK7.drew.drew⟩
                      (exact congrArg RtUF (finV1 (ng := false) (by assumption) (by assumption)))
                    · go_wp2_with fail
                      go_region
                      go_wp2_with fail
                      simp only [Exit.jump]
                      show bodyPost Tryz.prog Tryz.f187 (fun e w' => e = .returned (.tuple #[.int .u64 _, .bool false]) ∧ Kept [B] w w') _ _ _
                      go_ret2
                      refine ⟨?_, hK7.drew.drew.drew⟩
                      (exact congrArg RtUF (finV1 (ng := true) (by assumption) (by assumption)))
                  · go_step3
                    refine ⟨rfl, ?_⟩
                    go_wp2_with fail
                    go_region
                    cases ng
                    · go_wp2_with fail
                      simp only [Exit.jump]
                      show bodyPost Tryz.prog Tryz.f187 (fun e w' => e = .returned (.tuple #[.int .u64 _, .bool false]) ∧ Kept [B] w w') _ _ _
                      go_ret2
                      refine ⟨?_, hK7.drew.drew⟩
                      (exact congrArg RtUF (finV2 (ng := false) (by assumption) (by assumption) (by omega)))
                    · go_wp2_with fail
                      go_region
                      go_wp2_with fail
                      simp only [Exit.jump]
                      show bodyPost Tryz.prog Tryz.f187 (fun e w' => e = .returned (.tuple #[.int .u64 _, .bool false]) ∧ Kept [B] w w') _ _ _
                      go_ret2
                      refine ⟨?_, hK7.drew.drew.drew⟩
                      (exact congrArg RtUF (finV2 (ng := true) (by assumption) (by assumption) (by omega)))
                · go_step3
                  refine ⟨rfl, ?_⟩
                  go_wp2_with fail
                  go_region
                  cases ng
                  · go_wp2_with fail
                    simp only [Exit.jump]
                    show bodyPost Tryz.prog Tryz.f187 (fun e w' => e = .returned (.tuple #[.int .u64 _, .bool false]) ∧ Kept [B] w w') _ _ _
                    go_ret2
                    refine ⟨?_, hK7.drew⟩
                    (exact congrArg RtUF (finV3 (ng := false) (by assumption) (by assumption)))
                  · go_wp2_with fail
                    go_region
                    go_wp2_with fail
                    simp only [Exit.jump]
                    show bodyPost Tryz.prog Tryz.f187 (fun e w' => e = .returned (.tuple #[.int .u64 _, .bool false]) ∧ Kept [B] w w') _ _ _
                    go_ret2
                    refine ⟨?_, hK7.drew.drew⟩
                    (exact congrArg RtUF (finV3 (ng := true) (by assumption) (by assumption)))
                · go_step3
                  refine ⟨rfl, ?_⟩
                  go_wp2_with fail
                  go_region
                  cases ng
                  · go_wp2_with fail
                    simp only [Exit.jump]
                    show bodyPost Tryz.prog Tryz.f187 (fun e w' => e = .returned (.tuple #[.int .u64 _, .bool false]) ∧ Kept [B] w w') _ _ _
                    go_ret2
                    refine ⟨?_, hK7.drew⟩
                    (exact congrArg RtUF (finV4 (ng := false) (by assumption) (by assumption)))
                  · go_wp2_with fail
                    go_region
                    go_wp2_with fail
                    simp only [Exit.jump]
                    show bodyPost Tryz.prog Tryz.f187 (fun e w' => e = .returned (.tuple #[.int .u64 _, .bool false]) ∧ Kept [B] w w') _ _ _
                    go_ret2
                    refine ⟨?_, hK7.drew.drew⟩
                    (exact congrArg RtUF (finV4 (ng := true) (by assumption) (by assumption)))
              · skip
                go_wp2_with fail
                rw [show -1022 - (ex - 1) = (k : Int) from HK.out.symm]
                refine (HRN.out B _ hD).mono ?_
                rintro en w4 ⟨rfl, hK4, hD4⟩
                have hK5 := Kept.trans hK hK4 (fun _ h => h) (fun _ h _ => h)
                have ht5 := ht.kept hK5 hNw (by simpa using hN)
                have i0 := ht5.info0; have i1 := ht5.info1; have i2 := ht5.info2
                have hb1 : ex - 1 + k ≤ 0 := by have := HK.out; omega
                have hb2 : -1022 ≤ ex - 1 + k := by have := HK.out; omega
                go_wp2_with fail
                go_region
                go_wp2_with fail
                refine (HL.out B N _ (hch0.kept hK5.drew hNw (by simpa using hN) ht.low) hN hD4.drew).mono ?_
                rintro en w5 ⟨rfl, hKs, hD5⟩
                have hK6 := Kept.trans hK5.drew hKs (fun _ h => h) (fun _ h _ => h)
                have ht6 := ht.kept hK6 hNw (by simpa using hN)
                have j0 := ht6.info0; have j1 := ht6.info1; have j2 := ht6.info2
                have c6 := hD5.g
                go_wp2_with fail
                refine (HI.out B _ hD5).mono ?_
                rintro en w6 ⟨rfl, k6, rfl⟩
                have hK7 := hK6.drewN k6
                have ht7 := ht6.kept ((Kept.refl [B] w5).drewN k6) (Nat.le_trans hNw hK6.size) (by simpa using hN)
                have j0 := ht7.info0; have j1 := ht7.info1; have j2 := ht7.info2
                have c7 := (hD5.drewN k6).g
                clear hD5 hKs ht6
                generalize w5.drewN k6 = w7 at hK7 ht7 j0 j1 j2 c7
                obtain ⟨r1, r2⟩ := hr
                go_wp2_with fail
                · go_region
                  go_wp2_with fail
                  · go_step3
                    refine ⟨rfl, ?_⟩
                    go_wp2_with fail
                    go_region
                    cases ng
                    · go_wp2_with fail
                      simp only [Exit.jump]
                      show bodyPost Tryz.prog Tryz.f187 (fun e w' => e = .returned (.tuple #[.int .u64 _, .bool false]) ∧ Kept [B] w w') _ _ _
                      go_ret2
                      refine ⟨?_, hK7.drew.drew⟩
                      (exact congrArg RtUF (finV1 (ng := false) (by assumption) (by assumption)))
                    · go_wp2_with fail
                      go_region
                      go_wp2_with fail
                      simp only [Exit.jump]
                      show bodyPost Tryz.prog Tryz.f187 (fun e w' => e = .returned (.tuple #[.int .u64 _, .bool false]) ∧ Kept [B] w w') _ _ _
                      go_ret2
                      refine ⟨?_, hK7.drew.drew.drew⟩
                      (exact congrArg RtUF (finV1 (ng := true) (by assumption) (by assumption)))
                  · go_step3
                    refine ⟨rfl, ?_⟩
                    go_wp2_with fail
                    go_region
                    cases ng
                    · go_wp2_with fail
                      simp only [Exit.jump]
                      show bodyPost Tryz.prog Tryz.f187 (fun e w' => e = .returned (.tuple #[.int .u64 _, .bool false]) ∧ Kept [B] w w') _ _ _
                      go_ret2
                      refine ⟨?_, hK7.drew.drew⟩
                      (exact congrArg RtUF (finV2 (ng := false) (by assumption) (by assumption) (by omega)))
                    · go_wp2_with fail
                      go_region
                      go_wp2_with fail
                      simp only [Exit.jump]
                      show bodyPost Tryz.prog Tryz.f187 (fun e w' => e = .returned (.tuple #[.int .u64 _, .bool false]) ∧ Kept [B] w w') _ _ _
                      go_ret2
                      refine ⟨?_, hK7.drew.drew.drew⟩
                      (exact congrArg RtUF (finV2 (ng := true) (by assumption) (by assumption) (by omega)))
                · go_step3
                  refine ⟨rfl, ?_⟩
                  go_wp2_with fail
                  go_region
                  cases ng
                  · go_wp2_with fail
                    simp only [Exit.jump]
                    show bodyPost Tryz.prog Tryz.f187 (fun e w' => e = .returned (.tuple #[.int .u64 _, .bool false]) ∧ Kept [B] w w') _ _ _
                    go_ret2
                    refine ⟨?_, hK7.drew⟩
                    (exact congrArg RtUF (finV3 (ng := false) (by assumption) (by assumption)))
                  · go_wp2_with fail
                    go_region
                    go_wp2_with fail
                    simp only [Exit.jump]
                    show bodyPost Tryz.prog Tryz.f187 (fun e w' => e = .returned (.tuple #[.int .u64 _, .bool false]) ∧ Kept [B] w w') _ _ _
                    go_ret2
                    refine ⟨?_, hK7.drew.drew⟩
                    (exact congrArg RtUF (finV3 (ng := true) (by assumption) (by assumption)))
                · go_step3
                  refine ⟨rfl, ?_⟩
                  go_wp2_with fail
                  go_region
                  cases ng
                  · go_wp2_with fail
                    simp only [Exit.jump]
                    show bodyPost Tryz.prog Tryz.f187 (fun e w' => e = .returned (.tuple #[.int .u64 _, .bool false]) ∧ Kept [B] w w') _ _ _
                    go_ret2
                    refine ⟨?_, hK7.drew⟩
                    (exact congrArg RtUF (finV4 (ng := false) (by assumption) (by assumption)))
                  · go_wp2_with fail
                    go_region
                    go_wp2_with fail
                    simp only [Exit.jump]
                    show bodyPost Tryz.prog Tryz.f187 (fun e w' => e = .returned (.tuple #[.int .u64 _, .bool false]) ∧ Kept [B] w w') _ _ _
                    go_ret2
                    refine ⟨?_, hK7.drew.drew⟩
                    (exact congrArg RtUF (finV4 (ng := true) (by assumption) (by assumption)))
    · obtain ⟨⟨y3, n3, p3, tr3⟩, hq⟩ : ∃ q', shL ng 53 (y2, n2, p2, tr2) = q' := ⟨_, rfl⟩
      obtain ⟨⟨hok3, _⟩, hL⟩ := shL_is (k := 53) ⟨hok2, by decide, by decide, by dsimp only; omega, by dsimp only; omega⟩ hq
      obtain ⟨r, hr, hI⟩ := drintF y3 n3 p3 ng tr3 hok3.n8 hok3.dg
      have HL := Lib.hid hL; have HI := Lib.hid hI; clear hL hI hq hok3
      refine ⟨finV r (ex2 - 1) ng, finV_u _ _ _, ?_⟩
      intro B w hkw hNB hD
      have ht := hkw.tabs ht0 hN0
      have hNw : N ≤ w.heap.size := Nat.le_trans hN0 hkw.size
      have hN : N ≤ B := Nat.le_trans hN0 hNB
      have cN := hD.n; have cP := hD.p; have cG := hD.g
      have i0 := ht.info0; have i1 := ht.info1; have i2 := ht.info2
      have hch0 := hc0.kept hkw hN0 (by simp) hlow
      go_enter Tryz.func187, Tryz.ntmps187
      go_wp2_with fail
      refine wp_scope_fwd 0 rfl ?_
      go_wp2_with fail
      clear cN cP cG i0 i1 i2
      go_loopw [6] (fun ve wr => ∃ (ex : Int) (y : Nat → Nat) (n : Nat) (p : Int) (t : Bool), ve = .int .i64 ex ∧ Dec wr B y n p ng t ∧ AOk (ex, y, n, p, t) ∧ Tr (dbA pt ng) (ex, y, n, p, t) T1 ∧ Kept [B] w wr) (fun _ wr => 10 * (intOf ((wr.cell? ⟨B, 801, none⟩).getD default)).toNat + (intOf ((wr.cell? ⟨B, 0, none⟩).getD default)).toNat)
      case atStart => exact ⟨0, x, nd, dp, false, rfl, hD, hA0, HT1.out, Kept.refl _ _⟩
      case round =>
        clear hD
        obtain ⟨ex, y, n, p, t, rfl, hD, hI, hT, hK⟩ := hrel
        have hy : 49 ≤ y 0 ∧ y 0 ≤ 57 := hI.ok.y
        have hex : 0 ≤ ex := hI.inv.1; have hex2 : ex ≤ 1002 := hI.inv.2.2.2.2.1; have hpl : -900 ≤ p := hI.inv.2.2.2.2.2.1; have hpu : p ≤ 37 := hI.inv.2.2.2.2.2.2
        have HIN := Lib.hid hI; have HTT := Lib.hid hT; clear hI hT
        have hkr : Kept [] W0 wr := Kept.trans hkw hK (by simp) (fun z hz hl => by simp at hz; omega)
        have cP := hD.p
        have c0 := hD.dig 0 (by omega)
        have cT := hkr.cell (b := 22) (o := 0) (by omega) (by simp) |>.trans HTB.out
        by_cases hpos : 0 < p
        · by_cases h9 : 9 ≤ p
          · obtain ⟨⟨x4, nd4, dp4, tr4⟩, hq⟩ : ∃ q', shR ng 27 (y, n, p, t) = q' := ⟨_, rfl⟩
            have hRun := (shR_is (HIN.out.sh 27 (by decide) (by decide)) hq).2
            have hst : dbA pt ng (ex, y, n, p, t) = some (ex + 27, x4, nd4, dp4, tr4) := by
              unfold dbA vA; dsimp only; rw [if_pos hpos, if_pos h9, hq]; rfl
            have HI2 := Lib.hid (HIN.out.go HPT.out hst); have HT2 := Lib.hid (HTT.out.next hst); have HR := Lib.hid hRun
            clear hst hRun hq
            go_wp2_with fail
            go_region
            go_wp2_with fail
            rw [neg27]
            refine (HR.out B _ hD.drew).mono ?_
            rintro en w4 ⟨rfl, hK4, hD4⟩
            go_wp2_with fail
            refine ⟨⟨ex + 27, x4, nd4, dp4, tr4, rfl, hD4, HI2.out.1, HT2.out, Kept.trans hK.drew hK4 (fun _ h => h) (fun _ h _ => h)⟩, ?_⟩
            have := HI2.out.2
            try dsimp only at this
            try dsimp only at hD4
            rw [hD4.p, hD4.dig 0 (by omega), cP, c0]
            simp only [Option.getD_some, intOf, Int.toNat_natCast]
            exact this
          · have cv := (hkr.cell (b := tb) (o := tbo + p.toNat) (by omega) (by simp)).trans (HCV.out p.toNat (by omega))
            obtain ⟨v, hv⟩ : ∃ v, pt p.toNat = v := ⟨_, rfl⟩
            have v1 := HPT.out.lo p.toNat (by omega); have v2 := HPT.out.hi p.toNat (by omega)
            rw [hv] at cv v1 v2
            obtain ⟨⟨x4, nd4, dp4, tr4⟩, hq⟩ : ∃ q', shR ng v (y, n, p, t) = q' := ⟨_, rfl⟩
            have hRun := (shR_is (HIN.out.sh v v1 (by omega)) hq).2
            have hst : dbA pt ng (ex, y, n, p, t) = some (ex + v, x4, nd4, dp4, tr4) := by
              unfold dbA vA; dsimp only; rw [if_pos hpos, if_neg h9, hv, hq]
            have HI2 := Lib.hid (HIN.out.go HPT.out hst); have HT2 := Lib.hid (HTT.out.next hst); have HR := Lib.hid hRun
            clear hst hRun hq hv
            go_wp2_with fail
            go_region
            go_wp2_with fail
            go_region
            go_wp2_with fail
            refine (HR.out B _ hD.drew.drew).mono ?_
            rintro en w4 ⟨rfl, hK4, hD4⟩
            go_wp2_with fail
            refine ⟨⟨ex + v, x4, nd4, dp4, tr4, rfl, hD4, HI2.out.1, HT2.out, Kept.trans hK.drew.drew hK4 (fun _ h => h) (fun _ h _ => h)⟩, ?_⟩
            have := HI2.out.2
            try dsimp only at this
            try dsimp only at hD4
            rw [hD4.p, hD4.dig 0 (by omega), cP, c0]
            simp only [Option.getD_some, intOf, Int.toNat_natCast]
            exact this
        · have hte := HTT.out.last (show dbA pt ng (ex, y, n, p, t) = none from if_neg hpos)
          subst hte
          have hB0 : BOk (ex, y, n, p, t) := HIN.out.toB (by dsimp only; omega)
          have HB0 := Lib.hid hB0; clear hB0
          go_wp2_with fail
          go_loopw [6] (fun ve wr => ∃ (ex : Int) (y : Nat → Nat) (n : Nat) (p : Int) (t : Bool), ve = .int .i64 ex ∧ Dec wr B y n p ng t ∧ BOk (ex, y, n, p, t) ∧ Tr (dbB pt ng) (ex, y, n, p, t) (ex2, y2, n2, p2, tr2) ∧ Kept [B] w wr) (fun _ wr => (1 - intOf ((wr.cell? ⟨B, 801, none⟩).getD default)).toNat * 10 + (57 - (intOf ((wr.cell? ⟨B, 0, none⟩).getD default)).toNat))
          case atStart => exact ⟨ex, y, n, p, t, rfl, hD, HB0.out, HT2.out, hK⟩
          case round =>
            clear hD HIN cP c0 cT hy hK hpos hex hex2 hpl hpu hkr HB0 HTT
            obtain ⟨ex, y, n, p, t, rfl, hD, hI, hT, hK⟩ := hrel
            have hy : 49 ≤ y 0 ∧ y 0 ≤ 57 := hI.ok.y
            have hex : -243270 ≤ ex := hI.inv.2.1; have hex2 : ex ≤ 1002 := hI.inv.2.2.1; have hpl : -900 ≤ p := hI.inv.2.2.2.1; have hpu : p ≤ 37 := hI.inv.2.2.2.2
            have HIN := Lib.hid hI; have HTT := Lib.hid hT; clear hI hT
            have hkr : Kept [] W0 wr := Kept.trans hkw hK (by simp) (fun z hz hl => by simp at hz; omega)
            have cP := hD.p
            have c0 := hD.dig 0 (by omega)
            have cT := hkr.cell (b := 22) (o := 0) (by omega) (by simp) |>.trans HTB.out
            have hch := hc0.kept hkr hN0 (by simp) hlow
            by_cases hg : p < 0 ∨ (p = 0 ∧ y 0 < 53)
            · have HG := Lib.hid hg
              rcases hg with hg1 | ⟨hg1, hg2⟩
              · by_cases h9 : 9 ≤ -p
                · obtain ⟨⟨x4, nd4, dp4, tr4⟩, hq⟩ : ∃ q', shL ng 27 (y, n, p, t) = q' := ⟨_, rfl⟩
                  have hRun := (shL_is (HIN.out.sh 27 (by decide) (by decide)) hq).2
                  have hst : dbB pt ng (ex, y, n, p, t) = some (ex - 27, x4, nd4, dp4, tr4) := by
                    unfold dbB vA; dsimp only; rw [if_pos HG.out, if_pos h9, hq]; rfl
                  have HI2 := Lib.hid (HIN.out.go HPT.out hst); have HT2' := Lib.hid (HTT.out.next hst); have HR := Lib.hid hRun
                  clear hst hRun hq
                  go_wp2_with fail
                  go_region
                  go_wp2_with fail
                  refine (HR.out B N _ (hch.kept (Kept.refl [] wr).drew (Nat.le_trans hNw hK.size) (by simp) hlow) hN hD.drew).mono ?_
                  rintro en w4 ⟨rfl, hK4, hD4⟩
                  go_wp2_with fail
                  refine ⟨⟨ex - 27, x4, nd4, dp4, tr4, rfl, hD4, HI2.out.1, HT2'.out, Kept.trans hK.drew hK4 (fun _ h => h) (fun _ h _ => h)⟩, ?_⟩
                  have := HI2.out.2
                  try dsimp only at this
                  try dsimp only at hD4
                  rw [hD4.p, hD4.dig 0 (by omega), cP, c0]
                  simp only [Option.getD_some, intOf, Int.toNat_natCast]
                  exact this
                · have cv := (hkr.cell (b := tb) (o := tbo + (-p).toNat) (by omega) (by simp)).trans (HCV.out (-p).toNat (by omega))
                  obtain ⟨v, hv⟩ : ∃ v, pt (-p).toNat = v := ⟨_, rfl⟩
                  have v1 := HPT.out.lo (-p).toNat (by omega); have v2 := HPT.out.hi (-p).toNat (by omega)
                  rw [hv] at cv v1 v2
                  obtain ⟨⟨x4, nd4, dp4, tr4⟩, hq⟩ : ∃ q', shL ng v (y, n, p, t) = q' := ⟨_, rfl⟩
                  have hRun := (shL_is (HIN.out.sh v v1 (by omega)) hq).2
                  have hst : dbB pt ng (ex, y, n, p, t) = some (ex - v, x4, nd4, dp4, tr4) := by
                    unfold dbB vA; dsimp only; rw [if_pos HG.out, if_neg h9, hv, hq]
                  have HI2 := Lib.hid (HIN.out.go HPT.out hst); have HT2' := Lib.hid (HTT.out.next hst); have HR := Lib.hid hRun
                  clear hst hRun hq hv
                  go_wp2_with fail
                  go_region
                  go_wp2_with fail
                  go_region
                  go_wp2_with fail
                  refine (HR.out B N _ (hch.kept (Kept.refl [] wr).drew.drew (Nat.le_trans hNw hK.size) (by simp) hlow) hN hD.drew.drew).mono ?_
                  rintro en w4 ⟨rfl, hK4, hD4⟩
                  go_wp2_with fail
                  refine ⟨⟨ex - v, x4, nd4, dp4, tr4, rfl, hD4, HI2.out.1, HT2'.out, Kept.trans hK.drew.drew hK4 (fun _ h => h) (fun _ h _ => h)⟩, ?_⟩
                  have := HI2.out.2
                  try dsimp only at this
                  try dsimp only at hD4
                  rw [hD4.p, hD4.dig 0 (by omega), cP, c0]
                  simp only [Option.getD_some, intOf, Int.toNat_natCast]
                  exact this
              · subst hg1
                have cv := (hkr.cell (b := tb) (o := tbo + 0) (by omega) (by simp)).trans (HCV.out 0 (by omega))
                rw [Nat.add_zero] at cv
                obtain ⟨v, hv⟩ : ∃ v, pt 0 = v := ⟨_, rfl⟩
                have v1 := HPT.out.lo 0 (by omega); have v2 := HPT.out.hi 0 (by omega)
                rw [hv] at cv v1 v2
                obtain ⟨⟨x4, nd4, dp4, tr4⟩, hq⟩ : ∃ q', shL ng v (y, n, 0, t) = q' := ⟨_, rfl⟩
                have hRun := (shL_is (HIN.out.sh v v1 (by omega)) hq).2
                have hst : dbB pt ng (ex, y, n, 0, t) = some (ex - v, x4, nd4, dp4, tr4) := by
                  unfold dbB vA; dsimp only; rw [if_pos HG.out, if_neg (by decide), show (-(0 : Int)).toNat = 0 from rfl, hv, hq]
                have HI2 := Lib.hid (HIN.out.go HPT.out hst); have HT2' := Lib.hid (HTT.out.next hst); have HR := Lib.hid hRun
                clear hst hRun hq hv
                go_wp2_with fail
                go_region
                go_wp2_with fail
                go_region
                go_wp2_with fail
                refine (HR.out B N _ (hch.kept (Kept.refl [] wr).drew.drew (Nat.le_trans hNw hK.size) (by simp) hlow) hN hD.drew.drew).mono ?_
                rintro en w4 ⟨rfl, hK4, hD4⟩
                go_wp2_with fail
                refine ⟨⟨ex - v, x4, nd4, dp4, tr4, rfl, hD4, HI2.out.1, HT2'.out, Kept.trans hK.drew.drew hK4 (fun _ h => h) (fun _ h _ => h)⟩, ?_⟩
                have := HI2.out.2
                try dsimp only at this
                try dsimp only at hD4
                rw [hD4.p, hD4.dig 0 (by omega), cP, c0]
                simp only [Option.getD_some, intOf, Int.toNat_natCast]
                exact this
            · have hte := HTT.out.last (show dbB pt ng (ex, y, n, p, t) = none from if_neg hg)
              have H0 : (p = 0 ∧ 53 ≤ y 0) ∨ 0 < p := by omega
              clear HTT
              obtain ⟨rfl, rfl, rfl, rfl, rfl⟩ : ex = ex2 ∧ y = y2 ∧ n = n2 ∧ p = p2 ∧ t = tr2 := by cases hte; exact ⟨rfl, rfl, rfl, rfl, rfl⟩
              clear hte
              have ht2 := ht.kept hK hNw (by simpa using hN)
              have i0 := ht2.info0; have i1 := ht2.info1; have i2 := ht2.info2
              clear hg
              rcases H0 with ⟨rfl, h53⟩ | hp1
              · skip
                go_wp2_with fail
                go_region
                go_wp2_with fail
                refine (HL.out B N _ (hch0.kept hK.drew hNw (by simpa using hN) ht.low) hN hD.drew).mono ?_
                rintro en w5 ⟨rfl, hKs, hD5⟩
                have hK6 := Kept.trans hK.drew hKs (fun _ h => h) (fun _ h _ => h)
                have ht6 := ht.kept hK6 hNw (by simpa using hN)
                have j0 := ht6.info0; have j1 := ht6.info1; have j2 := ht6.info2
                have c6 := hD5.g
                go_wp2_with fail
                refine (HI.out B _ hD5).mono ?_
                rintro en w6 ⟨rfl, k6, rfl⟩
                have hK7 := hK6.drewN k6
                have ht7 := ht6.kept ((Kept.refl [B] w5).drewN k6) (Nat.le_trans hNw hK6.size) (by simpa using hN)
                have j0 := ht7.info0; have j1 := ht7.info1; have j2 := ht7.info2
                have c7 := (hD5.drewN k6).g
                clear hD5 hKs ht6
                generalize w5.drewN k6 = w7 at hK7 ht7 j0 j1 j2 c7
                obtain ⟨r1, r2⟩ := hr
                go_wp2_with fail
                · go_region
                  go_wp2_with fail
                  · go_step3
                    refine ⟨rfl, ?_⟩
                    go_wp2_with fail
                    go_region
                    cases ng
                    · go_wp2_with fail
                      simp only [Exit.jump]
                      show bodyPost Tryz.prog Tryz.f187 (fun e w' => e = .returned (.tuple #[.int .u64 _, .bool false]) ∧ Kept [B] w w') _ _ _
                      go_ret2
                      refine ⟨?_, hK7.drew.drew⟩
                      (exact congrArg RtUF (finV1 (ng := false) (by assumption) (by assumption)))
                    · go_wp2_with fail
                      go_region
                      go_wp2_with fail
                      simp only [Exit.jump]
                      show bodyPost Tryz.prog Tryz.f187 (fun e w' => e = .returned (.tuple #[.int .u64 _, .bool false]) ∧ Kept [B] w w') _ _ _
                      go_ret2
                      refine ⟨?_, hK7.drew.drew.drew⟩
                      (exact congrArg RtUF (finV1 (ng := true) (by assumption) (by assumption)))
                  · go_step3
                    refine ⟨rfl, ?_⟩
                    go_wp2_with fail
                    go_region
                    cases ng
                    · go_wp2_with fail
                      simp only [Exit.jump]
                      show bodyPost Tryz.prog Tryz.f187 (fun e w' => e = .returned (.tuple #[.int .u64 _, .bool false]) ∧ Kept [B] w w') _ _ _
                      go_ret2
                      refine ⟨?_, hK7.drew.drew⟩
                      (exact congrArg RtUF (finV2 (ng := false) (by assumption) (by assumption) (by omega)))
                    · go_wp2_with fail
                      go_region
                      go_wp2_with fail
                      simp only [Exit.jump]
                      show bodyPost Tryz.prog Tryz.f187 (fun e w' => e = .returned (.tuple #[.int .u64 _, .bool false]) ∧ Kept [B] w w') _ _ _
                      go_ret2
                      refine ⟨?_, hK7.drew.drew.drew⟩
                      (exact congrArg RtUF (finV2 (ng := true) (by assumption) (by assumption) (by omega)))
                · go_step3
                  refine ⟨rfl, ?_⟩
                  go_wp2_with fail
                  go_region
                  cases ng
                  · go_wp2_with fail
                    simp only [Exit.jump]
                    show bodyPost Tryz.prog Tryz.f187 (fun e w' => e = .returned (.tuple #[.int .u64 _, .bool false]) ∧ Kept [B] w w') _ _ _
                    go_ret2
                    refine ⟨?_, hK7.drew⟩
                    (exact congrArg RtUF (finV3 (ng := false) (by assumption) (by assumption)))
                  · go_wp2_with fail
                    go_region
                    go_wp2_with fail
                    simp only [Exit.jump]
                    show bodyPost Tryz.prog Tryz.f187 (fun e w' => e = .returned (.tuple #[.int .u64 _, .bool false]) ∧ Kept [B] w w') _ _ _
                    go_ret2
                    refine ⟨?_, hK7.drew.drew⟩
                    (exact congrArg RtUF (finV3 (ng := true) (by assumption) (by assumption)))
                · go_step3
                  refine ⟨rfl, ?_⟩
                  go_wp2_with fail
                  go_region
                  cases ng
                  · go_wp2_with fail
                    simp only [Exit.jump]
                    show bodyPost Tryz.prog Tryz.f187 (fun e w' => e = .returned (.tuple #[.int .u64 _, .bool false]) ∧ Kept [B] w w') _ _ _
                    go_ret2
                    refine ⟨?_, hK7.drew⟩
                    (exact congrArg RtUF (finV4 (ng := false) (by assumption) (by assumption)))
                  · go_wp2_with fail
                    go_region
                    go_wp2_with fail
                    simp only [Exit.jump]
                    show bodyPost Tryz.prog Tryz.f187 (fun e w' => e = .returned (.tuple #[.int .u64 _, .bool false]) ∧ Kept [B] w w') _ _ _
                    go_ret2
                    refine ⟨?_, hK7.drew.drew⟩
                    (exact congrArg RtUF (finV4 (ng := true) (by assumption) (by assumption)))
              · skip
                go_wp2_with fail
                go_region
                go_wp2_with fail
                refine (HL.out B N _ (hch0.kept hK.drew hNw (by simpa using hN) ht.low) hN hD.drew).mono ?_
                rintro en w5 ⟨rfl, hKs, hD5⟩
                have hK6 := Kept.trans hK.drew hKs (fun _ h => h) (fun _ h _ => h)
                have ht6 := ht.kept hK6 hNw (by simpa using hN)
                have j0 := ht6.info0; have j1 := ht6.info1; have j2 := ht6.info2
                have c6 := hD5.g
                go_wp2_with fail
                refine (HI.out B _ hD5).mono ?_
                rintro en w6 ⟨rfl, k6, rfl⟩
                have hK7 := hK6.drewN k6
                have ht7 := ht6.kept ((Kept.refl [B] w5).drewN k6) (Nat.le_trans hNw hK6.size) (by simpa using hN)
                have j0 := ht7.info0; have j1 := ht7.info1; have j2 := ht7.info2
                have c7 := (hD5.drewN k6).g
                clear hD5 hKs ht6
                generalize w5.drewN k6 = w7 at hK7 ht7 j0 j1 j2 c7
                obtain ⟨r1, r2⟩ := hr
                go_wp2_with fail
                · go_region
                  go_wp2_with fail
                  · go_step3
                    refine ⟨rfl, ?_⟩
                    go_wp2_with fail
                    go_region
                    cases ng
                    · go_wp2_with fail
                      simp only [Exit.jump]
                      show bodyPost Tryz.prog Tryz.f187 (fun e w' => e = .returned (.tuple #[.int .u64 _, .bool false]) ∧ Kept [B] w w') _ _ _
                      go_ret2
                      refine ⟨?_, hK7.drew.drew⟩
                      (exact congrArg RtUF (finV1 (ng := false) (by assumption) (by assumption)))
                    · go_wp2_with fail
                      go_region
                      go_wp2_with fail
                      simp only [Exit.jump]
                      show bodyPost Tryz.prog Tryz.f187 (fun e w' => e = .returned (.tuple #[.int .u64 _, .bool false]) ∧ Kept [B] w w') _ _ _
                      go_ret2
                      refine ⟨?_, hK7.drew.drew.drew⟩
                      (exact congrArg RtUF (finV1 (ng := true) (by assumption) (by assumption)))
                  · go_step3
                    refine ⟨rfl, ?_⟩
                    go_wp2_with fail
                    go_region
                    cases ng
                    · go_wp2_with fail
                      simp only [Exit.jump]
                      show bodyPost Tryz.prog Tryz.f187 (fun e w' => e = .returned (.tuple #[.int .u64 _, .bool false]) ∧ Kept [B] w w') _ _ _
                      go_ret2
                      refine ⟨?_, hK7.drew.drew⟩
                      (exact congrArg RtUF (finV2 (ng := false) (by assumption) (by assumption) (by omega)))
                    · go_wp2_with fail
                      go_region
                      go_wp2_with fail
                      simp only [Exit.jump]
                      show bodyPost Tryz.prog Tryz.f187 (fun e w' => e = .returned (.tuple #[.int .u64 _, .bool false]) ∧ Kept [B] w w') _ _ _
                      go_ret2
                      refine ⟨?_, hK7.drew.drew.drew⟩
                      (exact congrArg RtUF (finV2 (ng := true) (by assumption) (by assumption) (by omega)))
                · go_step3
                  refine ⟨rfl, ?_⟩
                  go_wp2_with fail
                  go_region
                  cases ng
                  · go_wp2_with fail
                    simp only [Exit.jump]
                    show bodyPost Tryz.prog Tryz.f187 (fun e w' => e = .returned (.tuple #[.int .u64 _, .bool false]) ∧ Kept [B] w w') _ _ _
                    go_ret2
                    refine ⟨?_, hK7.drew⟩
                    (exact congrArg RtUF (finV3 (ng := false) (by assumption) (by assumption)))
                  · go_wp2_with fail
                    go_region
                    go_wp2_with fail
                    simp only [Exit.jump]
                    show bodyPost Tryz.prog Tryz.f187 (fun e w' => e = .returned (.tuple #[.int .u64 _, .bool false]) ∧ Kept [B] w w') _ _ _
                    go_ret2
                    refine ⟨?_, hK7.drew.drew⟩
                    (exact congrArg RtUF (finV3 (ng := true) (by assumption) (by assumption)))
                · go_step3
                  refine ⟨rfl, ?_⟩
                  go_wp2_with fail
                  go_region
                  cases ng
                  · go_wp2_with fail
                    simp only [Exit.jump]
                    show bodyPost Tryz.prog Tryz.f187 (fun e w' => e = .returned (.tuple #[.int .u64 _, .bool false]) ∧ Kept [B] w w') _ _ _
                    go_ret2
                    refine ⟨?_, hK7.drew⟩
                    (exact congrArg RtUF (finV4 (ng := false) (by assumption) (by assumption)))
                  · go_wp2_with fail
                    go_region
                    go_wp2_with fail
                    simp only [Exit.jump]
                    show bodyPost Tryz.prog Tryz.f187 (fun e w' => e = .returned (.tuple #[.int .u64 _, .bool false]) ∧ Kept [B] w w') _ _ _
                    go_ret2
                    refine ⟨?_, hK7.drew.drew⟩
                    (exact congrArg RtUF (finV4 (ng := true) (by assumption) (by assumption)))
end Go.Proofs.YtfkecmlmnhbmoaaGreatDoor
