import Derived.Test.YtfkecmlmnhbmoaaGreatDoorDs18
import Derived.Test.YtfkecmlmnhbmoaaGreatDoorDs19
import Derived.RegionTactic
namespace Go.Proofs.YtfkecmlmnhbmoaaGreatDoor
open Go.RowKit
def DsL (s : ByteArray) (g P B : Nat) (w : World) (ng : Bool) (vi vsd vsg : Value) (wr : World) : Prop :=
  ∃ (i nd : Nat) (x : Nat → Nat) (dp : Int) (sg : Bool), i ≤ s.size ∧ g ≤ i ∧ vi = .int .i64 i ∧ vsd = .bool (decide (P < i)) ∧ vsg = .bool sg ∧ (g < i → sg = true) ∧ Dec wr B x nd dp ng false ∧ Dg x nd ∧ nd + g ≤ i ∧ (1 ≤ nd → x 0 ≠ 48) ∧ -(i : Int) ≤ dp ∧ dp ≤ 37 ∧ Kept [B] w wr
/-- What set leaves in the decimal. -/
def DsR (B : Nat) (w w' : World) : Prop := Kept [B] w w' ∧ ∃ x nd dp ng, Dec w' B x nd dp ng false ∧ Dg x nd ∧ nd ≤ 60 ∧ (1 ≤ nd → x 0 ≠ 48) ∧ -60 ≤ dp ∧ dp ≤ 37
theorem upd_first {x : Nat → Nat} {nd c : Nat} (h : 1 ≤ nd → x 0 ≠ 48) (hc : nd = 0 → c ≠ 48) : 1 ≤ nd + 1 → upd x nd c 0 ≠ 48 := fun _ => by
  by_cases h0 : nd = 0
  · subst h0; rw [upd_at]; exact hc rfl
  · rw [upd_ne _ _ (by omega)]; exact h (by omega)
set_option maxRecDepth 100000 in
set_option maxHeartbeats 8000000 in
theorem dset (B : Nat) (s : ByteArray) (g L : Nat) (w : World) (hs : NumS s g L) (hD : Dec w B (fun _ => 0) 0 0 false false) :
    Calls Tryz.prog 186 #[.pointer (some ⟨B, 0, none⟩), .string s] w fun e w' => e = .returned (.bool true) ∧ DsR B w w' := by
  have hsz := hs.size
  have hl1 := hs.l1; have hl2 := hs.l2; have hg1 := hs.g1
  have hf := hD.free
  by_cases hg : g = 1
  · subst hg
    have hlen : 3 < s.size := by omega
    have hlen2 : s.size ≤ 50 + 1 := by omega
    have hlen0 : 0 < s.size := by omega
    have hne : ¬ s = ByteArray.empty := by intro h; subst h; simp at hlen
    have d0 := hs.sign hlen0 rfl
    have z1 : (((s[0]'hlen0).toNat : Int) == 43) = false := beq_eq_false_iff_ne.2 (by omega)
    have z2 : (((s[0]'hlen0).toNat : Int) == 45) = true := beq_iff_eq.2 (by omega)
    obtain ⟨P, hP⟩ : ∃ P, P = 1 + L := ⟨_, rfl⟩
    have hP1 : 1 ≤ P := by omega
    have hP4 : P ≤ 38 := by omega
    have hP5 : P ≤ 1 + 37 := by omega
    have hP6 : 1 < P := by omega
    have hP2 : P + 13 ≤ s.size := by omega
    have hP3 : s.size ≤ P + 13 := by omega
    have HP := Lib.hid hP
    have HS := Lib.hid hs
    have HD1 := Lib.hid (((hD.setG false).setT false).setG true)
    have HK1 := Lib.hid ((((Kept.refl [B] w).set1 802 (.bool false)).set1 803 (.bool false)).set1 802 (.bool true))
    have cG := hD.g; have cT := hD.t; have hoff := cell_set_off
    have cG2 := (hD.setG false).g
    clear hs hsz hP hD d0
    go_enter Tryz.func186, Tryz.ntmps186
    go_wp2_with fail
    clear cG cT cG2
    go_loopw [5, 6, 7] (DsL s 1 P B w true) (fun vi _ _ _ => s.size - (intOf vi).toNat)
    case atStart => exact ⟨1, 0, fun _ => 0, 0, false, by omega, Nat.le_refl _, rfl, congrArg Value.bool (decide_eq_false (by omega)).symm, rfl, fun h => by omega, HD1.out, fun i hi => by omega, by omega, fun h => by omega, by omega, by omega, HK1.out⟩
    case round =>
      obtain ⟨i, nd, x, dp, sg, hi, hgi, rfl, rfl, rfl, hsg, hD, hd, hnd, hx0, hdp1, hdp2, hK⟩ := hrel
      have hf := hD.free
      have cN := hD.n; have cP := hD.p
      have HX := Lib.hid hx0; have HDg := Lib.hid hd; clear hx0 hd
      by_cases hlt : i < s.size
      · have z95 : (((s[i]'hlt).toNat : Int) == 95) = false := by have := HS.out.any i hlt; exact beq_eq_false_iff_ne.2 (by omega)
        by_cases hd : i = P
        · have zz : (((s[i]'hlt).toNat : Int) == 46) = true := HS.out.dotAt hlt (by have hp := HP.out; omega)
          have hPi : i ≤ P := by omega
          have hPi2 : P ≤ i := by omega
          have HD := Lib.hid hd; clear hd
          go_wp2_with fail
          exact ⟨⟨i + 1, nd, x, nd, sg, by omega, by omega, by go_num, congrArg Value.bool (by have := HD.out; simp; omega), rfl, fun h => hsg (by have := HD.out; omega), hD.setP nd, HDg.out, by omega, HX.out, by omega, by omega, hK.set1 _ _⟩, by simp [intOf]; omega⟩
        · have hdg := HS.out.dig i hlt (by omega) (by have hp := HP.out; omega)
          obtain ⟨c1, c2⟩ := hdg
          have z46 : (((s[i]'hlt).toNat : Int) == 46) = false := beq_eq_false_iff_ne.2 (by omega)
          have HD := Lib.hid hd; clear hd
          by_cases h48 : (s[i]'hlt).toNat = 48
          · have z48 : (((s[i]'hlt).toNat : Int) == 48) = true := beq_iff_eq.2 (by omega)
            have H48 := Lib.hid h48; clear h48
            by_cases hn0 : nd = 0
            · subst hn0
              go_wp2_with fail
              exact ⟨⟨i + 1, 0, x, dp - 1, true, by omega, by omega, by go_num, congrArg Value.bool (dec_step HD.out), rfl, fun _ => rfl, hD.setP _, HDg.out, by omega, HX.out, by omega, by omega, hK.set1 _ _⟩, by simp [intOf]; omega⟩
            · have zn : ((nd : Int) == 0) = false := beq_eq_false_iff_ne.2 (by omega)
              have hn1 : 1 ≤ nd := by omega
              have cD := hD.dig nd (by omega)
              have h800 : ¬ nd = 800 := by omega
              go_wp2_with fail
              go_region
              go_wp2_with fail
              exact ⟨⟨i + 1, nd + 1, upd x nd (s[i]'hlt).toNat, dp, true, by omega, by omega, by go_num, congrArg Value.bool (dec_step HD.out), rfl, fun _ => rfl, ((hD.setD (i := nd) (by omega) (s[i]'hlt).toNat).setN (nd + 1)).drew, Dg.snoc HDg.out c1 c2, by omega, upd_first HX.out (by intro h; omega), by omega, by omega, ((hK.set1 nd (.int .u8 ((s[i]'hlt).toNat : Nat))).set1 800 (.int .i64 ((nd + 1 : Nat) : Int))).drew⟩, by simp [intOf]; omega⟩
          · have z48 : (((s[i]'hlt).toNat : Int) == 48) = false := beq_eq_false_iff_ne.2 (by omega)
            have H48 := Lib.hid h48; clear h48
            have cD := hD.dig nd (by omega)
            have h800 : ¬ nd = 800 := by omega
            go_wp2_with fail
            go_region
            go_wp2_with fail
            exact ⟨⟨i + 1, nd + 1, upd x nd (s[i]'hlt).toNat, dp, true, by omega, by omega, by go_num, congrArg Value.bool (dec_step HD.out), rfl, fun _ => rfl, ((hD.setD (i := nd) (by omega) (s[i]'hlt).toNat).setN (nd + 1)).drew, Dg.snoc HDg.out c1 c2, by omega, upd_first HX.out (by intro _; exact H48.out), by omega, by omega, ((hK.set1 nd (.int .u8 ((s[i]'hlt).toNat : Nat))).set1 800 (.int .i64 ((nd + 1 : Nat) : Int))).drew⟩, by simp [intOf]; omega⟩
      · obtain rfl : i = s.size := by omega
        have hsg1 := hsg (by omega)
        subst hsg1
        have hPi : P < s.size := by omega
        go_wp2_with fail
        go_ret
        exact ⟨rfl, hK, x, nd, dp, true, hD, HDg.out, by omega, HX.out, by omega, by omega⟩
  · obtain rfl : g = 0 := by omega
    have hlen : 2 < s.size := by omega
    have hlen2 : s.size ≤ 50 := by omega
    have hlen0 : 0 < s.size := by omega
    have hne : ¬ s = ByteArray.empty := by intro h; subst h; simp at hlen
    have d0 := hs.dig 0 hlen0 (by omega) (by omega)
    have z1 : (((s[0]'hlen0).toNat : Int) == 43) = false := beq_eq_false_iff_ne.2 (by omega)
    have z2 : (((s[0]'hlen0).toNat : Int) == 45) = false := beq_eq_false_iff_ne.2 (by omega)
    obtain ⟨P, hP⟩ : ∃ P, P = 0 + L := ⟨_, rfl⟩
    have hP1 : 1 ≤ P := by omega
    have hP4 : P ≤ 38 := by omega
    have hP5 : P ≤ 0 + 37 := by omega
    have hP2 : P + 13 ≤ s.size := by omega
    have hP3 : s.size ≤ P + 13 := by omega
    have HP := Lib.hid hP
    have HS := Lib.hid hs
    have HD1 := Lib.hid ((hD.setG false).setT false)
    have HK1 := Lib.hid (((Kept.refl [B] w).set1 802 (.bool false)).set1 803 (.bool false))
    have cG := hD.g; have cT := hD.t; have hoff := cell_set_off
    have cG2 := (hD.setG false).g
    clear hs hsz hP hD d0
    go_enter Tryz.func186, Tryz.ntmps186
    go_wp2_with fail
    clear cG cT cG2
    go_loopw [5, 6, 7] (DsL s 0 P B w false) (fun vi _ _ _ => s.size - (intOf vi).toNat)
    case atStart => exact ⟨0, 0, fun _ => 0, 0, false, by omega, Nat.le_refl _, rfl, congrArg Value.bool (decide_eq_false (by omega)).symm, rfl, fun h => by omega, HD1.out, fun i hi => by omega, by omega, fun h => by omega, by omega, by omega, HK1.out⟩
    case round =>
      obtain ⟨i, nd, x, dp, sg, hi, hgi, rfl, rfl, rfl, hsg, hD, hd, hnd, hx0, hdp1, hdp2, hK⟩ := hrel
      have hf := hD.free
      have cN := hD.n; have cP := hD.p
      have HX := Lib.hid hx0; have HDg := Lib.hid hd; clear hx0 hd
      by_cases hlt : i < s.size
      · have z95 : (((s[i]'hlt).toNat : Int) == 95) = false := by have := HS.out.any i hlt; exact beq_eq_false_iff_ne.2 (by omega)
        by_cases hd : i = P
        · have zz : (((s[i]'hlt).toNat : Int) == 46) = true := HS.out.dotAt hlt (by have hp := HP.out; omega)
          have hPi : i ≤ P := by omega
          have hPi2 : P ≤ i := by omega
          have HD := Lib.hid hd; clear hd
          go_wp2_with fail
          exact ⟨⟨i + 1, nd, x, nd, sg, by omega, by omega, by go_num, congrArg Value.bool (by have := HD.out; simp; omega), rfl, fun h => hsg (by have := HD.out; omega), hD.setP nd, HDg.out, by omega, HX.out, by omega, by omega, hK.set1 _ _⟩, by simp [intOf]; omega⟩
        · have hdg := HS.out.dig i hlt (by omega) (by have hp := HP.out; omega)
          obtain ⟨c1, c2⟩ := hdg
          have z46 : (((s[i]'hlt).toNat : Int) == 46) = false := beq_eq_false_iff_ne.2 (by omega)
          have HD := Lib.hid hd; clear hd
          by_cases h48 : (s[i]'hlt).toNat = 48
          · have z48 : (((s[i]'hlt).toNat : Int) == 48) = true := beq_iff_eq.2 (by omega)
            have H48 := Lib.hid h48; clear h48
            by_cases hn0 : nd = 0
            · subst hn0
              go_wp2_with fail
              exact ⟨⟨i + 1, 0, x, dp - 1, true, by omega, by omega, by go_num, congrArg Value.bool (dec_step HD.out), rfl, fun _ => rfl, hD.setP _, HDg.out, by omega, HX.out, by omega, by omega, hK.set1 _ _⟩, by simp [intOf]; omega⟩
            · have zn : ((nd : Int) == 0) = false := beq_eq_false_iff_ne.2 (by omega)
              have hn1 : 1 ≤ nd := by omega
              have cD := hD.dig nd (by omega)
              have h800 : ¬ nd = 800 := by omega
              go_wp2_with fail
              go_region
              go_wp2_with fail
              exact ⟨⟨i + 1, nd + 1, upd x nd (s[i]'hlt).toNat, dp, true, by omega, by omega, by go_num, congrArg Value.bool (dec_step HD.out), rfl, fun _ => rfl, ((hD.setD (i := nd) (by omega) (s[i]'hlt).toNat).setN (nd + 1)).drew, Dg.snoc HDg.out c1 c2, by omega, upd_first HX.out (by intro h; omega), by omega, by omega, ((hK.set1 nd (.int .u8 ((s[i]'hlt).toNat : Nat))).set1 800 (.int .i64 ((nd + 1 : Nat) : Int))).drew⟩, by simp [intOf]; omega⟩
          · have z48 : (((s[i]'hlt).toNat : Int) == 48) = false := beq_eq_false_iff_ne.2 (by omega)
            have H48 := Lib.hid h48; clear h48
            have cD := hD.dig nd (by omega)
            have h800 : ¬ nd = 800 := by omega
            go_wp2_with fail
            go_region
            go_wp2_with fail
            exact ⟨⟨i + 1, nd + 1, upd x nd (s[i]'hlt).toNat, dp, true, by omega, by omega, by go_num, congrArg Value.bool (dec_step HD.out), rfl, fun _ => rfl, ((hD.setD (i := nd) (by omega) (s[i]'hlt).toNat).setN (nd + 1)).drew, Dg.snoc HDg.out c1 c2, by omega, upd_first HX.out (by intro _; exact H48.out), by omega, by omega, ((hK.set1 nd (.int .u8 ((s[i]'hlt).toNat : Nat))).set1 800 (.int .i64 ((nd + 1 : Nat) : Int))).drew⟩, by simp [intOf]; omega⟩
      · obtain rfl : i = s.size := by omega
        have hsg1 := hsg (by omega)
        subst hsg1
        have hPi : P < s.size := by omega
        go_wp2_with fail
        go_ret
        exact ⟨rfl, hK, x, nd, dp, false, hD, HDg.out, by omega, HX.out, by omega, by omega⟩
end Go.Proofs.YtfkecmlmnhbmoaaGreatDoor
namespace Go.Proofs.YtfkecmlmnhbmoaaGreatDoor
open Go.RowKit
/-- The table powtab. -/
structure PowT (N : Nat) (w : World) : Prop where
  low : 25 < N
  tp : ∃ b o, b < N ∧ w.cell? ⟨22, 0, none⟩ = some (.slice (some ⟨b, o, none⟩) 9 9) ∧ ∀ i, i < 9 → ∃ v : Nat, 1 ≤ v ∧ v ≤ 26 ∧ (i = 1 → v = 3) ∧ (2 ≤ i → 6 ≤ v) ∧ w.cell? ⟨b, o + i, none⟩ = some (.int .i64 v)
theorem PowT.kept {N : Nat} {w w' : World} {X : List Nat} (h : PowT N w) (hk : Kept X w w') (hN : N ≤ w.heap.size) (hX : ∀ x ∈ X, N ≤ x) : PowT N w' := by
  have hl := h.low
  have k : ∀ b o, b < N → w'.cell? ⟨b, o, none⟩ = w.cell? ⟨b, o, none⟩ := fun b o hb => hk.cell (by omega) (fun hm => by have := hX _ hm; omega)
  obtain ⟨b, o, hb, h1, h2⟩ := h.tp
  exact ⟨hl, b, o, hb, (k _ _ (by omega)).trans h1, fun i hi => by obtain ⟨v, h3, h4, h5, h6, hr⟩ := h2 i hi; exact ⟨v, h3, h4, h5, h6, (k _ _ hb).trans hr⟩⟩
theorem Cheat.kept {N : Nat} {w w' : World} {X : List Nat} (h : Cheat N w) (hk : Kept X w w') (hN : N ≤ w.heap.size) (hX : ∀ x ∈ X, N ≤ x) (hlow : 25 < N) : Cheat N w' := by
  have k : ∀ b o, b < N → w'.cell? ⟨b, o, none⟩ = w.cell? ⟨b, o, none⟩ := fun b o hb => hk.cell (by omega) (fun hm => by have := hX _ hm; omega)
  obtain ⟨b, o, cap, hb, h1, h2⟩ := h
  exact ⟨b, o, cap, hb, (k _ _ (by omega)).trans h1, fun i hi => ⟨(k _ _ hb).trans (h2 i hi).1, (k _ _ hb).trans (h2 i hi).2⟩⟩
def RetUB (e : Ending) : Prop := ∃ r : Int, U r ∧ e = .returned (.tuple #[.int .u64 r, .bool false])
def InvA (ex p : Int) (y : Nat) : Prop := 0 ≤ ex ∧ (2 ≤ p → ex + 27 * p ≤ 999) ∧ (p = 1 → 56 ≤ y → ex ≤ 972) ∧ (p = 1 → ex ≤ 975) ∧ ex ≤ 1002 ∧ -900 ≤ p ∧ p ≤ 37
theorem stepA {ex p p' : Int} {y y' v : Nat} (h : InvA ex p y) (hp : 1 ≤ p) (hv1 : 1 ≤ v) (hv2 : v ≤ 27) (h1 : p = 1 → v = 3) (h2 : 2 ≤ p → 6 ≤ v) (hy1 : 49 ≤ y) (hy2 : y ≤ 57) (hy' : y' ≤ 57) (hp' : p' ≤ p) (hlo : p - 900 ≤ p')
    (he : p' = p → 2 ^ v ≤ y - 48 ∧ y' = 48 + (y - 48) / 2 ^ v) : InvA (ex + v) p' y' ∧ 10 * p'.toNat + y' < 10 * p.toNat + y := by
  obtain ⟨a1, a2, a3, a4, a5, a6, a7⟩ := h
  by_cases e : p' = p
  · obtain ⟨e1, e2⟩ := he e
    subst e
    by_cases hq : p' = 1
    · obtain rfl := h1 hq
      rw [show (2 : Nat) ^ 3 = 8 from rfl] at e1 e2
      have := a3 hq (by omega)
      refine ⟨⟨by omega, by omega, by omega, by omega, by omega, by omega, by omega⟩, by omega⟩
    · have h6 := h2 (by omega)
      have : 2 ^ 6 ≤ 2 ^ v := Nat.pow_le_pow_right (by decide) h6
      rw [show (2 : Nat) ^ 6 = 64 from rfl] at this
      omega
  · clear he
    by_cases hq : p = 1
    · have := h1 hq; have := a4 hq
      refine ⟨⟨by omega, by omega, by omega, by omega, by omega, by omega, by omega⟩, by omega⟩
    · have := a2 (by omega)
      refine ⟨⟨by omega, by omega, by omega, by omega, by omega, by omega, by omega⟩, by omega⟩
def InvB (ex p : Int) (y : Nat) : Prop := (p ≤ 0 → 27 * (10 * -p + 57 - y) - 243270 ≤ ex) ∧ -243270 ≤ ex ∧ ex ≤ 1002 ∧ -900 ≤ p ∧ p ≤ 37
theorem stepAB {ex p : Int} {y : Nat} (h : InvA ex p y) (hp : p ≤ 0) (hy1 : 49 ≤ y) : InvB ex p y := by
  obtain ⟨a1, a2, a3, a4, a5, a6, a7⟩ := h
  exact ⟨fun _ => by omega, by omega, by omega, by omega, by omega⟩
theorem stepB {ex p : Int} {y y' v a : Nat} (h : InvB ex p y) (hg : p < 0 ∨ (p = 0 ∧ y < 53)) (hv1 : 1 ≤ v) (hv2 : v ≤ 27) (hy1 : 49 ≤ y) (hy2 : y ≤ 57) (hy1' : 49 ≤ y') (hy2' : y' ≤ 57) (ha : a ≤ 19) (h0 : a = 0 → 48 + (y - 48) * 2 ^ v ≤ y') :
    InvB (ex - v) (p + a) y' ∧ (1 - (p + a)).toNat * 10 + (57 - y') < (1 - p).toNat * 10 + (57 - y) := by
  obtain ⟨b1, b2, b3, b4, b5⟩ := h
  have b6 := b1 (by omega)
  clear b1
  by_cases ha0 : a = 0
  · have h3 := h0 ha0
    have h4 : 2 ^ 1 ≤ 2 ^ v := Nat.pow_le_pow_right (by decide) hv1
    have h5 : (y - 48) * 2 ≤ (y - 48) * 2 ^ v := Nat.mul_le_mul_left _ h4
    generalize (y - 48) * 2 ^ v = z at h3 h5
    clear h0 h4
    subst ha0
    refine ⟨⟨fun _ => by omega, by omega, by omega, by omega, by omega⟩, by omega⟩
  · clear h0
    refine ⟨⟨fun _ => by omega, by omega, by omega, by omega, by omega⟩, by omega⟩
end Go.Proofs.YtfkecmlmnhbmoaaGreatDoor
