import Derived.Test.YtfkecmlmnhbmoaaGreatDoorFk30
import Derived.Test.YtfkecmlmnhbmoaaGreatDoorFk20
namespace Go.Proofs.YtfkecmlmnhbmoaaGreatDoor
open Go.RowKit
abbrev DT := Nat × Nat × (Nat → Nat) × Int
/-- A step of taking a numeral's digits, whose point stands at P: the place, the digits' number, the digits, the point. -/
def dsF (s : ByteArray) (P : Nat) (t : DT) : Option DT :=
  if t.1 < s.size then (if t.1 = P then some (t.1 + 1, t.2.1, t.2.2.1, (t.2.1 : Int)) else
    if btx s t.1 = 48 ∧ t.2.1 = 0 then some (t.1 + 1, 0, t.2.2.1, t.2.2.2 - 1) else
    some (t.1 + 1, t.2.1 + 1, upd t.2.2.1 t.2.1 (btx s t.1), t.2.2.2)) else none
structure DsI (s : ByteArray) (g : Nat) (t : DT) : Prop where
  i : t.1 ≤ s.size
  gi : g ≤ t.1
  d : Dg t.2.2.1 t.2.1
  n : t.2.1 + g ≤ t.1
  f : 1 ≤ t.2.1 → t.2.2.1 0 ≠ 48
  lo : -(t.1 : Int) ≤ t.2.2.2
  hi : t.2.2.2 ≤ 37
theorem DsI.go {s : ByteArray} {g L : Nat} (hL : L ≤ 37) (hc : ∀ i, i < s.size → i ≠ g + L → g ≤ i → 48 ≤ btx s i ∧ btx s i ≤ 57) {t u : DT} (h : DsI s g t) (e : dsF s (g + L) t = some u) : DsI s g u ∧ s.size - u.1 < s.size - t.1 := by
  obtain ⟨a1, a2, a3, a4, a5, a6, a7⟩ := h
  unfold dsF at e
  split at e
  · rename_i hi
    split at e
    · cases e
      exact ⟨⟨by dsimp only; omega, by dsimp only; omega, a3, by dsimp only; omega, a5, by dsimp only; omega, by dsimp only; omega⟩, by dsimp only; omega⟩
    · rename_i hP
      obtain ⟨c1, c2⟩ := hc t.1 hi hP a2
      split at e
      · rename_i h2
        cases e
        refine ⟨⟨by dsimp only; omega, by dsimp only; omega, fun i hi => by dsimp only at hi; omega, by dsimp only; omega, fun h => by dsimp only at h; omega, by dsimp only; omega, by dsimp only; omega⟩, by dsimp only; omega⟩
      · rename_i h2
        cases e
        exact ⟨⟨by dsimp only; omega, by dsimp only; omega, Dg.snoc a3 c1 c2, by dsimp only; omega, upd_first a5 (fun h0 hb => h2 ⟨hb, h0⟩), by dsimp only; omega, by dsimp only; omega⟩, by dsimp only; omega⟩
  · cases e
def DsX (s : ByteArray) (g P B : Nat) (w : World) (T : DT) (ng : Bool) (vi vsd vsg : Value) (wr : World) : Prop :=
  ∃ (i nd : Nat) (x : Nat → Nat) (dp : Int) (sg : Bool), DsI s g (i, nd, x, dp) ∧ Tr (dsF s P) (i, nd, x, dp) T ∧ vi = .int .i64 i ∧ vsd = .bool (decide (P < i)) ∧ vsg = .bool sg ∧ (g < i → sg = true) ∧ Dec wr B x nd dp ng false ∧ Kept [B] w wr
set_option maxRecDepth 100000 in
set_option maxHeartbeats 8000000 in
theorem dsetF (s : ByteArray) (g L : Nat) (hs : NumS s g L) : ∃ (nd : Nat) (x : Nat → Nat) (dp : Int), (Dg x nd ∧ nd ≤ 60 ∧ (1 ≤ nd → x 0 ≠ 48) ∧ -60 ≤ dp ∧ dp ≤ 37) ∧ ∀ (B : Nat) (w : World), Dec w B (fun _ => 0) 0 0 false false →
    Calls Tryz.prog 186 #[.pointer (some ⟨B, 0, none⟩), .string s] w fun e w' => e = .returned (.bool true) ∧ Kept [B] w w' ∧ Dec w' B x nd dp (decide (g = 1)) false := by
  have hsz := hs.size
  have hl1 := hs.l1; have hl2 := hs.l2; have hg1 := hs.g1
  have hc : ∀ i, i < s.size → i ≠ g + L → g ≤ i → 48 ≤ btx s i ∧ btx s i ≤ 57 := fun i hi hne hg => by rw [btx_at hi]; exact hs.dig i hi (by omega) (by omega)
  obtain ⟨T, hT, hI, hn⟩ := Tr.ends (f := dsF s (g + L)) (fun t => s.size - t.1) (DsI s g) (fun t u h e => DsI.go hl2 hc h e) _ (g, 0, fun _ => 0, 0) (Nat.le_refl _) ⟨by dsimp only; omega, Nat.le_refl _, fun i hi => by dsimp only at hi; omega, by dsimp only; omega, fun h => by dsimp only at h; omega, by dsimp only; omega, by dsimp only; omega⟩
  refine ⟨T.2.1, T.2.2.1, T.2.2.2, ⟨hI.d, by have := hI.n; have := hI.i; omega, hI.f, by have := hI.lo; have := hI.i; omega, hI.hi⟩, fun B w hD => ?_⟩
  have HT0 := Lib.hid hT; have HC := Lib.hid hc; have HL := Lib.hid hl2; clear hT hI hn hc
  have hf := hD.free
  by_cases hg : g = 1
  · subst hg
    have hlen : 3 < s.size := by omega
    have hlen2 : s.size ≤ 50 + 1 := by omega
    have hlen0 : 0 < s.size := by omega
    have hne : ¬ s = ByteArray.empty := by intro h; subst h; simp at hlen
    have d0 := hs.sign hlen0 rfl
    have z1 : (((s[0]'hlen0).toNat : Int) == 43) = false := beq_eq_false_iff_ne.2 (by omega)
    have z2 : (((s[0]'hlen0).toNat : Int) == 45) = true := beq_iff_eq.2 (by omega)
    obtain ⟨P, hP⟩ : ∃ P, P = 1 + L := ⟨_, rfl⟩
    rw [← hP] at HT0
    have hP1 : 1 ≤ P := by omega
    have hP4 : P ≤ 38 := by omega
    have hP5 : P ≤ 1 + 37 := by omega
    have hP6 : 1 < P := by omega
    have hP2 : P + 13 ≤ s.size := by omega
    have hP3 : s.size ≤ P + 13 := by omega
    have HP := Lib.hid hP
    have HS := Lib.hid hs
    have HD1 := Lib.hid (((hD.setG false).setT false).setG true)
    have HK1 := Lib.hid ((((Kept.refl [B] w).set1 802 (.bool false)).set1 803 (.bool false)).set1 802 (.bool true))
    have cG := hD.g; have cT := hD.t; have hoff := cell_set_off
    have cG2 := (hD.setG false).g
    clear hs hsz hP hD d0
    go_enter Tryz.func186, Tryz.ntmps186
    go_wp2_with fail
    clear cG cT cG2
    go_loopw [5, 6, 7] (DsX s 1 P B w T true) (fun vi _ _ _ => s.size - (intOf vi).toNat)
    case atStart => exact ⟨1, 0, fun _ => 0, 0, false, ⟨by dsimp only; omega, Nat.le_refl _, fun i hi => by dsimp only at hi; omega, by dsimp only; omega, fun h => by dsimp only at h; omega, by dsimp only; omega, by dsimp only; omega⟩, HT0.out, rfl, congrArg Value.bool (decide_eq_false (by omega)).symm, rfl, fun h => by omega, HD1.out, HK1.out⟩
    case round =>
      obtain ⟨i, nd, x, dp, sg, hI, hT, rfl, rfl, rfl, hsg, hD, hK⟩ := hrel
      have hi : i ≤ s.size := hI.i
      have hgi : 1 ≤ i := hI.gi
      have hnd : nd + 1 ≤ i := hI.n
      have hdp1 : -(i : Int) ≤ dp := hI.lo
      have hdp2 : dp ≤ 37 := hI.hi
      have hf := hD.free
      have cN := hD.n; have cP := hD.p
      have HI := Lib.hid hI; have HT := Lib.hid hT; clear hI hT
      by_cases hlt : i < s.size
      · have z95 : (((s[i]'hlt).toNat : Int) == 95) = false := by have := HS.out.any i hlt; exact beq_eq_false_iff_ne.2 (by omega)
        have hbx : btx s i = (s[i]'hlt).toNat := btx_at hlt
        have HBX := Lib.hid hbx; clear hbx
        by_cases hd : i = P
        · have zz : (((s[i]'hlt).toNat : Int) == 46) = true := HS.out.dotAt hlt (by have hp := HP.out; omega)
          have hst : dsF s P (i, nd, x, dp) = some (i + 1, nd, x, (nd : Int)) := by unfold dsF; rw [if_pos hlt, if_pos hd]
          have HI2 := Lib.hid (HI.out.go HL.out HC.out (by rw [← HP.out]; exact hst)).1
          have HT2 := Lib.hid (HT.out.next hst)
          have hPi : i ≤ P := by omega
          have hPi2 : P ≤ i := by omega
          have HD := Lib.hid hd; clear hd hst
          go_wp2_with fail
          exact ⟨⟨i + 1, nd, x, nd, sg, HI2.out, HT2.out, by go_num, congrArg Value.bool (by have := HD.out; simp; omega), rfl, fun h => hsg (by have := HD.out; omega), hD.setP nd, hK.set1 _ _⟩, by simp [intOf]; omega⟩
        · have hdg := HS.out.dig i hlt (by omega) (by have hp := HP.out; omega)
          obtain ⟨c1, c2⟩ := hdg
          have z46 : (((s[i]'hlt).toNat : Int) == 46) = false := beq_eq_false_iff_ne.2 (by omega)
          have HD := Lib.hid hd; clear hd
          by_cases h48 : (s[i]'hlt).toNat = 48
          · have z48 : (((s[i]'hlt).toNat : Int) == 48) = true := beq_iff_eq.2 (by omega)
            have hb48 : btx s i = 48 := by rw [HBX.out, h48]
            have H48 := Lib.hid h48; have HB48 := Lib.hid hb48; clear h48 hb48
            by_cases hn0 : nd = 0
            · subst hn0
              have hst : dsF s P (i, 0, x, dp) = some (i + 1, 0, x, dp - 1) := by unfold dsF; rw [if_pos hlt, if_neg HD.out, if_pos ⟨HB48.out, rfl⟩]
              have HI2 := Lib.hid (HI.out.go HL.out HC.out (by rw [← HP.out]; exact hst)).1
              have HT2 := Lib.hid (HT.out.next hst)
              clear hst
              go_wp2_with fail
              exact ⟨⟨i + 1, 0, x, dp - 1, true, HI2.out, HT2.out, by go_num, congrArg Value.bool (dec_step HD.out), rfl, fun _ => rfl, hD.setP _, hK.set1 _ _⟩, by simp [intOf]; omega⟩
            · have zn : ((nd : Int) == 0) = false := beq_eq_false_iff_ne.2 (by omega)
              have hn1 : 1 ≤ nd := by omega
              have cD := hD.dig nd (by omega)
              have h800 : ¬ nd = 800 := by omega
              have hst : dsF s P (i, nd, x, dp) = some (i + 1, nd + 1, upd x nd (btx s i), dp) := by unfold dsF; rw [if_pos hlt, if_neg HD.out, if_neg (fun h => hn0 h.2)]
              have HI2 := Lib.hid (HI.out.go HL.out HC.out (by rw [← HP.out]; exact hst)).1
              have HT2 := Lib.hid (HT.out.next hst)
              clear hst
              go_wp2_with fail
              go_region
              go_wp2_with fail
              exact ⟨⟨i + 1, nd + 1, upd x nd (s[i]'hlt).toNat, dp, true, by rw [← HBX.out]; exact HI2.out, by rw [← HBX.out]; exact HT2.out, by go_num, congrArg Value.bool (dec_step HD.out), rfl, fun _ => rfl, ((hD.setD (i := nd) (by omega) (s[i]'hlt).toNat).setN (nd + 1)).drew, ((hK.set1 nd (.int .u8 ((s[i]'hlt).toNat : Nat))).set1 800 (.int .i64 ((nd + 1 : Nat) : Int))).drew⟩, by simp [intOf]; omega⟩
          · have z48 : (((s[i]'hlt).toNat : Int) == 48) = false := beq_eq_false_iff_ne.2 (by omega)
            have hb48 : btx s i ≠ 48 := by rw [HBX.out]; exact h48
            have H48 := Lib.hid h48; have HB48 := Lib.hid hb48; clear h48 hb48
            have cD := hD.dig nd (by omega)
            have h800 : ¬ nd = 800 := by omega
            have hst : dsF s P (i, nd, x, dp) = some (i + 1, nd + 1, upd x nd (btx s i), dp) := by unfold dsF; rw [if_pos hlt, if_neg HD.out, if_neg (fun h => HB48.out h.1)]
            have HI2 := Lib.hid (HI.out.go HL.out HC.out (by rw [← HP.out]; exact hst)).1
            have HT2 := Lib.hid (HT.out.next hst)
            clear hst
            go_wp2_with fail
            go_region
            go_wp2_with fail
            exact ⟨⟨i + 1, nd + 1, upd x nd (s[i]'hlt).toNat, dp, true, by rw [← HBX.out]; exact HI2.out, by rw [← HBX.out]; exact HT2.out, by go_num, congrArg Value.bool (dec_step HD.out), rfl, fun _ => rfl, ((hD.setD (i := nd) (by omega) (s[i]'hlt).toNat).setN (nd + 1)).drew, ((hK.set1 nd (.int .u8 ((s[i]'hlt).toNat : Nat))).set1 800 (.int .i64 ((nd + 1 : Nat) : Int))).drew⟩, by simp [intOf]; omega⟩
      · have hte := HT.out.last (show dsF s P (i, nd, x, dp) = none from if_neg hlt)
        obtain rfl : i = s.size := by omega
        subst hte
        have hsg1 := hsg (by omega)
        subst hsg1
        have hPi : P < s.size := by omega
        go_wp2_with fail
        go_ret
        exact ⟨rfl, hK, hD⟩
  · obtain rfl : g = 0 := by omega
    have hlen : 2 < s.size := by omega
    have hlen2 : s.size ≤ 50 := by omega
    have hlen0 : 0 < s.size := by omega
    have hne : ¬ s = ByteArray.empty := by intro h; subst h; simp at hlen
    have d0 := hs.dig 0 hlen0 (by omega) (by omega)
    have z1 : (((s[0]'hlen0).toNat : Int) == 43) = false := beq_eq_false_iff_ne.2 (by omega)
    have z2 : (((s[0]'hlen0).toNat : Int) == 45) = false := beq_eq_false_iff_ne.2 (by omega)
    obtain ⟨P, hP⟩ : ∃ P, P = 0 + L := ⟨_, rfl⟩
    rw [← hP] at HT0
    have hP1 : 1 ≤ P := by omega
    have hP4 : P ≤ 38 := by omega
    have hP5 : P ≤ 0 + 37 := by omega
    have hP2 : P + 13 ≤ s.size := by omega
    have hP3 : s.size ≤ P + 13 := by omega
    have HP := Lib.hid hP
    have HS := Lib.hid hs
    have HD1 := Lib.hid ((hD.setG false).setT false)
    have HK1 := Lib.hid (((Kept.refl [B] w).set1 802 (.bool false)).set1 803 (.bool false))
    have cG := hD.g; have cT := hD.t; have hoff := cell_set_off
    have cG2 := (hD.setG false).g
    clear hs hsz hP hD d0
    go_enter Tryz.func186, Tryz.ntmps186
    go_wp2_with fail
    clear cG cT cG2
    go_loopw [5, 6, 7] (DsX s 0 P B w T false) (fun vi _ _ _ => s.size - (intOf vi).toNat)
    case atStart => exact ⟨0, 0, fun _ => 0, 0, false, ⟨by dsimp only; omega, Nat.le_refl _, fun i hi => by dsimp only at hi; omega, by dsimp only; omega, fun h => by dsimp only at h; omega, by dsimp only; omega, by dsimp only; omega⟩, HT0.out, rfl, congrArg Value.bool (decide_eq_false (by omega)).symm, rfl, fun h => by omega, HD1.out, HK1.out⟩
    case round =>
      obtain ⟨i, nd, x, dp, sg, hI, hT, rfl, rfl, rfl, hsg, hD, hK⟩ := hrel
      have hi : i ≤ s.size := hI.i
      have hgi : 0 ≤ i := hI.gi
      have hnd : nd + 0 ≤ i := hI.n
      have hdp1 : -(i : Int) ≤ dp := hI.lo
      have hdp2 : dp ≤ 37 := hI.hi
      have hf := hD.free
      have cN := hD.n; have cP := hD.p
      have HI := Lib.hid hI; have HT := Lib.hid hT; clear hI hT
      by_cases hlt : i < s.size
      · have z95 : (((s[i]'hlt).toNat : Int) == 95) = false := by have := HS.out.any i hlt; exact beq_eq_false_iff_ne.2 (by omega)
        have hbx : btx s i = (s[i]'hlt).toNat := btx_at hlt
        have HBX := Lib.hid hbx; clear hbx
        by_cases hd : i = P
        · have zz : (((s[i]'hlt).toNat : Int) == 46) = true := HS.out.dotAt hlt (by have hp := HP.out; omega)
          have hst : dsF s P (i, nd, x, dp) = some (i + 1, nd, x, (nd : Int)) := by unfold dsF; rw [if_pos hlt, if_pos hd]
          have HI2 := Lib.hid (HI.out.go HL.out HC.out (by rw [← HP.out]; exact hst)).1
          have HT2 := Lib.hid (HT.out.next hst)
          have hPi : i ≤ P := by omega
          have hPi2 : P ≤ i := by omega
          have HD := Lib.hid hd; clear hd hst
          go_wp2_with fail
          exact ⟨⟨i + 1, nd, x, nd, sg, HI2.out, HT2.out, by go_num, congrArg Value.bool (by have := HD.out; simp; omega), rfl, fun h => hsg (by have := HD.out; omega), hD.setP nd, hK.set1 _ _⟩, by simp [intOf]; omega⟩
        · have hdg := HS.out.dig i hlt (by omega) (by have hp := HP.out; omega)
          obtain ⟨c1, c2⟩ := hdg
          have z46 : (((s[i]'hlt).toNat : Int) == 46) = false := beq_eq_false_iff_ne.2 (by omega)
          have HD := Lib.hid hd; clear hd
          by_cases h48 : (s[i]'hlt).toNat = 48
          · have z48 : (((s[i]'hlt).toNat : Int) == 48) = true := beq_iff_eq.2 (by omega)
            have hb48 : btx s i = 48 := by rw [HBX.out, h48]
            have H48 := Lib.hid h48; have HB48 := Lib.hid hb48; clear h48 hb48
            by_cases hn0 : nd = 0
            · subst hn0
              have hst : dsF s P (i, 0, x, dp) = some (i + 1, 0, x, dp - 1) := by unfold dsF; rw [if_pos hlt, if_neg HD.out, if_pos ⟨HB48.out, rfl⟩]
              have HI2 := Lib.hid (HI.out.go HL.out HC.out (by rw [← HP.out]; exact hst)).1
              have HT2 := Lib.hid (HT.out.next hst)
              clear hst
              go_wp2_with fail
              exact ⟨⟨i + 1, 0, x, dp - 1, true, HI2.out, HT2.out, by go_num, congrArg Value.bool (dec_step HD.out), rfl, fun _ => rfl, hD.setP _, hK.set1 _ _⟩, by simp [intOf]; omega⟩
            · have zn : ((nd : Int) == 0) = false := beq_eq_false_iff_ne.2 (by omega)
              have hn1 : 1 ≤ nd := by omega
              have cD := hD.dig nd (by omega)
              have h800 : ¬ nd = 800 := by omega
              have hst : dsF s P (i, nd, x, dp) = some (i + 1, nd + 1, upd x nd (btx s i), dp) := by unfold dsF; rw [if_pos hlt, if_neg HD.out, if_neg (fun h => hn0 h.2)]
              have HI2 := Lib.hid (HI.out.go HL.out HC.out (by rw [← HP.out]; exact hst)).1
              have HT2 := Lib.hid (HT.out.next hst)
              clear hst
              go_wp2_with fail
              go_region
              go_wp2_with fail
              exact ⟨⟨i + 1, nd + 1, upd x nd (s[i]'hlt).toNat, dp, true, by rw [← HBX.out]; exact HI2.out, by rw [← HBX.out]; exact HT2.out, by go_num, congrArg Value.bool (dec_step HD.out), rfl, fun _ => rfl, ((hD.setD (i := nd) (by omega) (s[i]'hlt).toNat).setN (nd + 1)).drew, ((hK.set1 nd (.int .u8 ((s[i]'hlt).toNat : Nat))).set1 800 (.int .i64 ((nd + 1 : Nat) : Int))).drew⟩, by simp [intOf]; omega⟩
          · have z48 : (((s[i]'hlt).toNat : Int) == 48) = false := beq_eq_false_iff_ne.2 (by omega)
            have hb48 : btx s i ≠ 48 := by rw [HBX.out]; exact h48
            have H48 := Lib.hid h48; have HB48 := Lib.hid hb48; clear h48 hb48
            have cD := hD.dig nd (by omega)
            have h800 : ¬ nd = 800 := by omega
            have hst : dsF s P (i, nd, x, dp) = some (i + 1, nd + 1, upd x nd (btx s i), dp) := by unfold dsF; rw [if_pos hlt, if_neg HD.out, if_neg (fun h => HB48.out h.1)]
            have HI2 := Lib.hid (HI.out.go HL.out HC.out (by rw [← HP.out]; exact hst)).1
            have HT2 := Lib.hid (HT.out.next hst)
            clear hst
            go_wp2_with fail
            go_region
            go_wp2_with fail
            exact ⟨⟨i + 1, nd + 1, upd x nd (s[i]'hlt).toNat, dp, true, by rw [← HBX.out]; exact HI2.out, by rw [← HBX.out]; exact HT2.out, by go_num, congrArg Value.bool (dec_step HD.out), rfl, fun _ => rfl, ((hD.setD (i := nd) (by omega) (s[i]'hlt).toNat).setN (nd + 1)).drew, ((hK.set1 nd (.int .u8 ((s[i]'hlt).toNat : Nat))).set1 800 (.int .i64 ((nd + 1 : Nat) : Int))).drew⟩, by simp [intOf]; omega⟩
      · have hte := HT.out.last (show dsF s P (i, nd, x, dp) = none from if_neg hlt)
        obtain rfl : i = s.size := by omega
        subst hte
        have hsg1 := hsg (by omega)
        subst hsg1
        have hPi : P < s.size := by omega
        go_wp2_with fail
        go_ret
        exact ⟨rfl, hK, hD⟩
end Go.Proofs.YtfkecmlmnhbmoaaGreatDoor
