import Derived.Test.YtfkecmlmnhbmoaaGreatDoorFk27
import Derived.Test.YtfkecmlmnhbmoaaGreatDoorFk19
namespace Go.Proofs.YtfkecmlmnhbmoaaGreatDoor
open Go.RowKit
/-- A byte of a text. -/
def btx (s : ByteArray) (i : Nat) : Nat := if h : i < s.size then (s[i]'h).toNat else 0
theorem btx_at {s : ByteArray} {i : Nat} (h : i < s.size) : btx s i = (s[i]'h).toNat := dif_pos h
abbrev RS := Nat × Nat × Nat × Nat × Int × Bool
/-- A step of reading a numeral whose point stands at P: the place, the mantissa, digits seen, digits taken, the point, what was cut. -/
def rdF (s : ByteArray) (P : Nat) (t : RS) : Option RS :=
  if t.1 < s.size then (if t.1 = P then some (t.1 + 1, t.2.1, t.2.2.1, t.2.2.2.1, (t.2.2.1 : Int), t.2.2.2.2.2) else
    if btx s t.1 = 48 ∧ t.2.2.1 = 0 then some (t.1 + 1, t.2.1, 0, t.2.2.2.1, t.2.2.2.2.1 - 1, t.2.2.2.2.2) else
    if t.2.2.2.1 < 19 then some (t.1 + 1, t.2.1 * 10 + (btx s t.1 - 48), t.2.2.1 + 1, t.2.2.2.1 + 1, t.2.2.2.2.1, t.2.2.2.2.2) else
    some (t.1 + 1, t.2.1, t.2.2.1 + 1, t.2.2.2.1, t.2.2.2.2.1, t.2.2.2.2.2 || decide (btx s t.1 ≠ 48))) else none
structure RdI (s : ByteArray) (g : Nat) (t : RS) : Prop where
  i : t.1 ≤ s.size
  g : g ≤ t.1
  m : t.2.1 < 10 ^ t.2.2.2.1
  q : t.2.2.2.1 ≤ 19
  qn : t.2.2.2.1 ≤ t.2.2.1
  ni : t.2.2.1 ≤ t.1
  lo : -(t.1 : Int) ≤ t.2.2.2.2.1
  hi : t.2.2.2.2.1 ≤ t.1
theorem RdI.go {s : ByteArray} {g P : Nat} (hc : ∀ i, i < s.size → btx s i ≤ 57) {t u : RS} (h : RdI s g t) (e : rdF s P t = some u) : RdI s g u ∧ s.size - u.1 < s.size - t.1 := by
  obtain ⟨a1, a2, a3, a4, a5, a6, a7, a8⟩ := h
  unfold rdF at e
  split at e
  · rename_i hi
    have hc := hc t.1 hi
    split at e
    · cases e
      exact ⟨⟨by dsimp only; omega, by dsimp only; omega, a3, a4, a5, by dsimp only; omega, by dsimp only; omega, by dsimp only; omega⟩, by dsimp only; omega⟩
    · split at e
      · rename_i h2
        cases e
        exact ⟨⟨by dsimp only; omega, by dsimp only; omega, a3, a4, by dsimp only; omega, by dsimp only; omega, by dsimp only; omega, by dsimp only; omega⟩, by dsimp only; omega⟩
      · split at e
        · cases e
          exact ⟨⟨by dsimp only; omega, by dsimp only; omega, ten_snoc a3 (by omega), by dsimp only; omega, by dsimp only; omega, by dsimp only; omega, by dsimp only; omega, by dsimp only; omega⟩, by dsimp only; omega⟩
        · cases e
          exact ⟨⟨by dsimp only; omega, by dsimp only; omega, a3, a4, by dsimp only; omega, by dsimp only; omega, by dsimp only; omega, by dsimp only; omega⟩, by dsimp only; omega⟩
  · cases e
def RdX (s : ByteArray) (g P : Nat) (w : World) (T : RS) (vm vt vi vu vsd vsg vn vq vp : Value) (wr : World) : Prop :=
  ∃ (i m n q : Nat) (dp : Int) (tr sg : Bool), RdI s g (i, m, n, q, dp, tr) ∧ Tr (rdF s P) (i, m, n, q, dp, tr) T ∧ vm = .int .u64 m ∧ vt = .bool tr ∧ vi = .int .i64 i ∧ vu = .bool false ∧ vsd = .bool (decide (P < i)) ∧ vsg = .bool sg ∧ (g < i → sg = true) ∧ vn = .int .i64 n ∧ vq = .int .i64 q ∧ vp = .int .i64 dp ∧ ∃ k, wr = w.drewN k
set_option maxRecDepth 100000 in
set_option maxHeartbeats 4000000 in
theorem readfF (s : ByteArray) (g L : Nat) (hs : NumS s g L) : ∃ (m : Nat) (x : Int) (tr : Bool), (m < 10000000000000000000 ∧ -300 ≤ x ∧ x ≤ 200) ∧ ∀ w : World,
    Calls Tryz.prog 180 #[.string s] w fun e w' => e = .returned (.tuple #[.int .u64 m, .int .i64 x, .bool (decide (g = 1)), .bool tr, .bool false, .int .i64 s.size, .bool true]) ∧ ∃ k, w' = w.drewN k := by
  have hsz := hs.size
  have hl1 := hs.l1; have hl2 := hs.l2; have hg1 := hs.g1
  have hc : ∀ i, i < s.size → btx s i ≤ 57 := fun i hi => by rw [btx_at hi]; exact (hs.any i hi).2
  obtain ⟨T, hT, hI, hn⟩ := Tr.ends (f := rdF s (g + L)) (fun t => s.size - t.1) (RdI s g) (fun t u h e => RdI.go hc h e) _ (g, 0, 0, 0, 0, false) (Nat.le_refl _) ⟨by dsimp only; omega, Nat.le_refl _, by show 0 < 10 ^ 0; decide, by dsimp only; omega, by dsimp only; omega, by dsimp only; omega, by dsimp only; omega, by dsimp only; omega⟩
  have hT1 : T.1 ≤ s.size := hI.i
  refine ⟨T.2.1, if T.2.1 = 0 then 0 else T.2.2.2.2.1 - T.2.2.2.1, T.2.2.2.2.2, ⟨ten19 hI.m hI.q, ?_, ?_⟩, fun w => ?_⟩
  · have := hI.lo; have := hI.q
    split <;> omega
  · have := hI.hi
    split <;> omega
  have HT0 := Lib.hid hT; have HC := Lib.hid hc; clear hT hI hn hc
  by_cases hg : g = 1
  · subst hg
    have hlen : 3 < s.size := by omega
    have hlen2 : s.size ≤ 1000 := by omega
    have hlen0 : 0 < s.size := by omega
    have hne : ¬ s = ByteArray.empty := by intro h; subst h; simp at hlen
    have hlen1 : 1 < s.size := by omega
    have hlen3 : 2 < s.size := by omega
    have d0 := hs.sign hlen0 rfl
    have d1 := hs.any 2 hlen3
    have z1 : (((s[0]'hlen0).toNat : Int) == 43) = false := beq_eq_false_iff_ne.2 (by omega)
    have z2 : (((s[0]'hlen0).toNat : Int) == 45) = true := beq_iff_eq.2 (by omega)
    have zx : (((s[2]'hlen3).toNat : Int) == 120) = false := beq_eq_false_iff_ne.2 (by omega)
    obtain ⟨P, hP⟩ : ∃ P, P = 1 + L := ⟨_, rfl⟩
    rw [← hP] at HT0
    have hP1 : 1 ≤ P := by omega
    have hP4 : P ≤ 38 := by omega
    have hP2 : P + 13 ≤ s.size := by omega
    have hP3 : s.size ≤ P + 13 := by omega
    have HP := Lib.hid hP
    have HS := Lib.hid hs; clear hs hsz hP d0
    go_enter Tryz.func180, Tryz.ntmps180
    go_wp2_with fail
    go_step3
    go_wp2_with (go_at_call 194; refine (lowr _ _ d1.1 d1.2).mono ?_; rintro e w' ⟨rfl, rfl⟩)
    all_goals
      go_step3
      go_wp2_with fail
      go_loopw [2, 5, 7, 9, 13, 14, 15, 16, 17] (RdX s 1 P w T) (fun _ _ vi _ _ _ _ _ _ _ => s.size - (intOf vi).toNat)
      case atStart => exact ⟨1, 0, 0, 0, 0, false, false, ⟨by dsimp only; omega, Nat.le_refl _, by show 0 < 10 ^ 0; decide, by dsimp only; omega, by dsimp only; omega, by dsimp only; omega, by dsimp only; omega, by dsimp only; omega⟩, HT0.out, rfl, rfl, rfl, rfl, congrArg Value.bool (decide_eq_false (by omega)).symm, rfl, fun h => by omega, rfl, rfl, rfl, 0, rfl⟩
      case round =>
        obtain ⟨i, m, n, q, dp, tr, sg, hI, hT, rfl, rfl, rfl, rfl, rfl, rfl, hsg, rfl, rfl, rfl, k, rfl⟩ := hrel
        have hi : i ≤ s.size := hI.i
        have hgi : 1 ≤ i := hI.g
        have hq : q ≤ 19 := hI.q
        have hqn : q ≤ n := hI.qn
        have hni : n ≤ i := hI.ni
        have hdp1 : -(i : Int) ≤ dp := hI.lo
        have hdp2 : dp ≤ i := hI.hi
        have hm : m < 10 ^ q := hI.m
        have hm19 := ten19 hm hq
        have HM := Lib.hid hm; have HI := Lib.hid hI; have HT := Lib.hid hT; clear hm hI hT
        by_cases hlt : i < s.size
        · have z95 : (((s[i]'hlt).toNat : Int) == 95) = false := by have := HS.out.any i hlt; exact beq_eq_false_iff_ne.2 (by omega)
          have hbx : btx s i = (s[i]'hlt).toNat := btx_at hlt
          have HBX := Lib.hid hbx; clear hbx
          by_cases hd : i = P
          · have zz : (((s[i]'hlt).toNat : Int) == 46) = true := HS.out.dotAt hlt (by have hp := HP.out; omega)
            have hst : rdF s P (i, m, n, q, dp, tr) = some (i + 1, m, n, q, (n : Int), tr) := by unfold rdF; rw [if_pos hlt, if_pos hd]
            have HI2 := Lib.hid (HI.out.go HC.out hst).1
            have HT2 := Lib.hid (HT.out.next hst)
            have hPi : i ≤ P := by omega
            have hPi2 : P ≤ i := by omega
            have HD := Lib.hid hd; clear hd hst
            go_wp2_with fail
            exact ⟨⟨i + 1, m, n, q, n, tr, sg, HI2.out, HT2.out, rfl, rfl, by go_num, rfl, congrArg Value.bool (by have := HD.out; simp; omega), rfl, fun h => hsg (by have := HD.out; have := HS.out.l1; have := HP.out; omega), rfl, rfl, rfl, k, rfl⟩, by simp [intOf]; omega⟩
          · have hdg := HS.out.dig i hlt (by omega) (by have hp := HP.out; omega)
            obtain ⟨c1, c2⟩ := hdg
            have z46 : (((s[i]'hlt).toNat : Int) == 46) = false := beq_eq_false_iff_ne.2 (by omega)
            have HD := Lib.hid hd; clear hd
            by_cases h48 : (s[i]'hlt).toNat = 48
            · have z48 : (((s[i]'hlt).toNat : Int) == 48) = true := beq_iff_eq.2 (by omega)
              have z48' : (((s[i]'hlt).toNat : Int) != 48) = false := by rw [bne_eq_false_iff_eq]; omega
              have hb48 : btx s i = 48 := by rw [HBX.out, h48]
              have H48 := Lib.hid h48; have HB48 := Lib.hid hb48; clear h48 hb48
              by_cases hn0 : n = 0
              · subst hn0
                have hst : rdF s P (i, m, 0, q, dp, tr) = some (i + 1, m, 0, q, dp - 1, tr) := by unfold rdF; rw [if_pos hlt, if_neg HD.out, if_pos ⟨HB48.out, rfl⟩]
                have HI2 := Lib.hid (HI.out.go HC.out hst).1
                have HT2 := Lib.hid (HT.out.next hst)
                clear hst
                go_wp2_with fail
                exact ⟨⟨i + 1, m, 0, q, dp - 1, tr, true, HI2.out, HT2.out, rfl, rfl, by go_num, rfl, congrArg Value.bool (dec_step HD.out), rfl, fun _ => rfl, rfl, rfl, rfl, k, rfl⟩, by simp [intOf]; omega⟩
              · have zn : ((n : Int) == 0) = false := beq_eq_false_iff_ne.2 (by omega)
                by_cases hq2 : q < 19
                · have hm18 := ten18 HM.out (by omega)
                  have hst : rdF s P (i, m, n, q, dp, tr) = some (i + 1, m * 10 + (btx s i - 48), n + 1, q + 1, dp, tr) := by unfold rdF; rw [if_pos hlt, if_neg HD.out, if_neg (fun h => hn0 h.2), if_pos hq2]
                  rw [HBX.out] at hst
                  have HI2 := Lib.hid (HI.out.go HC.out (by rw [← HBX.out] at hst; exact hst)).1
                  have HT2 := Lib.hid (HT.out.next hst)
                  clear hst
                  go_wp2_with fail
                  exact ⟨⟨i + 1, m * 10 + ((s[i]'hlt).toNat - 48), n + 1, q + 1, dp, tr, true, by rw [← HBX.out]; exact HI2.out, HT2.out, congrArg (Value.int .u64) (ten_snocI _ c1 m), rfl, by go_num, rfl, congrArg Value.bool (dec_step HD.out), rfl, fun _ => rfl, by go_num, by go_num, rfl, k, rfl⟩, by simp [intOf]; omega⟩
                · have hst : rdF s P (i, m, n, q, dp, tr) = some (i + 1, m, n + 1, q, dp, tr || decide (btx s i ≠ 48)) := by unfold rdF; rw [if_pos hlt, if_neg HD.out, if_neg (fun h => hn0 h.2), if_neg hq2]
                  rw [show (tr || decide (btx s i ≠ 48)) = tr by rw [HB48.out]; simp] at hst
                  have HI2 := Lib.hid (HI.out.go HC.out hst).1
                  have HT2 := Lib.hid (HT.out.next hst)
                  clear hst
                  go_wp2_with fail
                  exact ⟨⟨i + 1, m, n + 1, q, dp, tr, true, HI2.out, HT2.out, rfl, rfl, by go_num, rfl, congrArg Value.bool (dec_step HD.out), rfl, fun _ => rfl, by go_num, rfl, rfl, k, rfl⟩, by simp [intOf]; omega⟩
            · have z48 : (((s[i]'hlt).toNat : Int) == 48) = false := beq_eq_false_iff_ne.2 (by omega)
              have z48' : (((s[i]'hlt).toNat : Int) != 48) = true := by rw [bne_iff_ne]; omega
              have hb48 : btx s i ≠ 48 := by rw [HBX.out]; exact h48
              have H48 := Lib.hid h48; have HB48 := Lib.hid hb48; clear h48 hb48
              by_cases hq2 : q < 19
              · have hm18 := ten18 HM.out (by omega)
                have hst : rdF s P (i, m, n, q, dp, tr) = some (i + 1, m * 10 + (btx s i - 48), n + 1, q + 1, dp, tr) := by unfold rdF; rw [if_pos hlt, if_neg HD.out, if_neg (fun h => HB48.out h.1), if_pos hq2]
                rw [HBX.out] at hst
                have HI2 := Lib.hid (HI.out.go HC.out (by rw [← HBX.out] at hst; exact hst)).1
                have HT2 := Lib.hid (HT.out.next hst)
                clear hst
                go_wp2_with fail
                exact ⟨⟨i + 1, m * 10 + ((s[i]'hlt).toNat - 48), n + 1, q + 1, dp, tr, true, by rw [← HBX.out]; exact HI2.out, HT2.out, congrArg (Value.int .u64) (ten_snocI _ c1 m), rfl, by go_num, rfl, congrArg Value.bool (dec_step HD.out), rfl, fun _ => rfl, by go_num, by go_num, rfl, k, rfl⟩, by simp [intOf]; omega⟩
              · have hst : rdF s P (i, m, n, q, dp, tr) = some (i + 1, m, n + 1, q, dp, tr || decide (btx s i ≠ 48)) := by unfold rdF; rw [if_pos hlt, if_neg HD.out, if_neg (fun h => HB48.out h.1), if_neg hq2]
                rw [show (tr || decide (btx s i ≠ 48)) = true by rw [decide_eq_true HB48.out]; simp] at hst
                have HI2 := Lib.hid (HI.out.go HC.out hst).1
                have HT2 := Lib.hid (HT.out.next hst)
                clear hst
                go_wp2_with fail
                exact ⟨⟨i + 1, m, n + 1, q, dp, true, true, HI2.out, HT2.out, rfl, rfl, by go_num, rfl, congrArg Value.bool (dec_step HD.out), rfl, fun _ => rfl, by go_num, rfl, rfl, k, rfl⟩, by simp [intOf]; omega⟩
        · have hte := HT.out.last (show rdF s P (i, m, n, q, dp, tr) = none from if_neg hlt)
          obtain rfl : i = s.size := by omega
          subst hte
          have hsg1 := hsg (by omega)
          subst hsg1
          have hPi : P < s.size := by omega
          by_cases hm0 : m = 0
          · subst hm0
            go_wp2_with fail
            exact bodyPost_ret (v := .tuple #[.int .u64 (0 : Nat), .int .i64 0, .bool true, .bool tr, .bool false, .int .i64 s.size, .bool true]) (by simp [results, Tryz.results180, go_sem]) rfl ⟨rfl, k, rfl⟩
          · have zm : ((m : Int) != 0) = true := by rw [bne_iff_ne]; omega
            have hif : (if m = 0 then (0 : Int) else dp - q) = dp - q := if_neg hm0
            have HIF := Lib.hid hif; clear hif
            go_wp2_with fail
            exact bodyPost_ret (v := .tuple #[.int .u64 m, .int .i64 (dp - q), .bool true, .bool tr, .bool false, .int .i64 s.size, .bool true]) (by simp [results, Tryz.results180, go_sem]) rfl ⟨by have := HIF.out; first | rfl | (dsimp only; done) | (dsimp only; rw [this]), k, rfl⟩
  · obtain rfl : g = 0 := by omega
    have hlen : 2 < s.size := by omega
    have hlen2 : s.size ≤ 1000 := by omega
    have hlen0 : 0 < s.size := by omega
    have hne : ¬ s = ByteArray.empty := by intro h; subst h; simp at hlen
    have hlen1 : 1 < s.size := by omega
    have d0 := hs.dig 0 hlen0 (by omega) (by omega)
    have d1 := hs.any 1 hlen1
    have z1 : (((s[0]'hlen0).toNat : Int) == 43) = false := beq_eq_false_iff_ne.2 (by omega)
    have z2 : (((s[0]'hlen0).toNat : Int) == 45) = false := beq_eq_false_iff_ne.2 (by omega)
    have zx : (((s[1]'hlen1).toNat : Int) == 120) = false := beq_eq_false_iff_ne.2 (by omega)
    obtain ⟨P, hP⟩ : ∃ P, P = 0 + L := ⟨_, rfl⟩
    rw [← hP] at HT0
    have hP1 : 1 ≤ P := by omega
    have hP4 : P ≤ 38 := by omega
    have hP2 : P + 13 ≤ s.size := by omega
    have hP3 : s.size ≤ P + 13 := by omega
    have HP := Lib.hid hP
    have HS := Lib.hid hs; clear hs hsz hP
    go_enter Tryz.func180, Tryz.ntmps180
    go_wp2_with fail
    go_step3
    go_wp2_with (go_at_call 194; refine (lowr _ _ d1.1 d1.2).mono ?_; rintro e w' ⟨rfl, rfl⟩)
    all_goals
      go_step3
      go_wp2_with fail
      go_loopw [2, 5, 7, 9, 13, 14, 15, 16, 17] (RdX s 0 P w T) (fun _ _ vi _ _ _ _ _ _ _ => s.size - (intOf vi).toNat)
      case atStart => exact ⟨0, 0, 0, 0, 0, false, false, ⟨by dsimp only; omega, Nat.le_refl _, by show 0 < 10 ^ 0; decide, by dsimp only; omega, by dsimp only; omega, by dsimp only; omega, by dsimp only; omega, by dsimp only; omega⟩, HT0.out, rfl, rfl, rfl, rfl, congrArg Value.bool (decide_eq_false (by omega)).symm, rfl, fun h => by omega, rfl, rfl, rfl, 0, rfl⟩
      case round =>
        obtain ⟨i, m, n, q, dp, tr, sg, hI, hT, rfl, rfl, rfl, rfl, rfl, rfl, hsg, rfl, rfl, rfl, k, rfl⟩ := hrel
        have hi : i ≤ s.size := hI.i
        have hgi : 0 ≤ i := hI.g
        have hq : q ≤ 19 := hI.q
        have hqn : q ≤ n := hI.qn
        have hni : n ≤ i := hI.ni
        have hdp1 : -(i : Int) ≤ dp := hI.lo
        have hdp2 : dp ≤ i := hI.hi
        have hm : m < 10 ^ q := hI.m
        have hm19 := ten19 hm hq
        have HM := Lib.hid hm; have HI := Lib.hid hI; have HT := Lib.hid hT; clear hm hI hT
        by_cases hlt : i < s.size
        · have z95 : (((s[i]'hlt).toNat : Int) == 95) = false := by have := HS.out.any i hlt; exact beq_eq_false_iff_ne.2 (by omega)
          have hbx : btx s i = (s[i]'hlt).toNat := btx_at hlt
          have HBX := Lib.hid hbx; clear hbx
          by_cases hd : i = P
          · have zz : (((s[i]'hlt).toNat : Int) == 46) = true := HS.out.dotAt hlt (by have hp := HP.out; omega)
            have hst : rdF s P (i, m, n, q, dp, tr) = some (i + 1, m, n, q, (n : Int), tr) := by unfold rdF; rw [if_pos hlt, if_pos hd]
            have HI2 := Lib.hid (HI.out.go HC.out hst).1
            have HT2 := Lib.hid (HT.out.next hst)
            have hPi : i ≤ P := by omega
            have hPi2 : P ≤ i := by omega
            have HD := Lib.hid hd; clear hd hst
            go_wp2_with fail
            exact ⟨⟨i + 1, m, n, q, n, tr, sg, HI2.out, HT2.out, rfl, rfl, by go_num, rfl, congrArg Value.bool (by have := HD.out; simp; omega), rfl, fun h => hsg (by have := HD.out; have := HS.out.l1; have := HP.out; omega), rfl, rfl, rfl, k, rfl⟩, by simp [intOf]; omega⟩
          · have hdg := HS.out.dig i hlt (by omega) (by have hp := HP.out; omega)
            obtain ⟨c1, c2⟩ := hdg
            have z46 : (((s[i]'hlt).toNat : Int) == 46) = false := beq_eq_false_iff_ne.2 (by omega)
            have HD := Lib.hid hd; clear hd
            by_cases h48 : (s[i]'hlt).toNat = 48
            · have z48 : (((s[i]'hlt).toNat : Int) == 48) = true := beq_iff_eq.2 (by omega)
              have z48' : (((s[i]'hlt).toNat : Int) != 48) = false := by rw [bne_eq_false_iff_eq]; omega
              have hb48 : btx s i = 48 := by rw [HBX.out, h48]
              have H48 := Lib.hid h48; have HB48 := Lib.hid hb48; clear h48 hb48
              by_cases hn0 : n = 0
              · subst hn0
                have hst : rdF s P (i, m, 0, q, dp, tr) = some (i + 1, m, 0, q, dp - 1, tr) := by unfold rdF; rw [if_pos hlt, if_neg HD.out, if_pos ⟨HB48.out, rfl⟩]
                have HI2 := Lib.hid (HI.out.go HC.out hst).1
                have HT2 := Lib.hid (HT.out.next hst)
                clear hst
                go_wp2_with fail
                exact ⟨⟨i + 1, m, 0, q, dp - 1, tr, true, HI2.out, HT2.out, rfl, rfl, by go_num, rfl, congrArg Value.bool (dec_step HD.out), rfl, fun _ => rfl, rfl, rfl, rfl, k, rfl⟩, by simp [intOf]; omega⟩
              · have zn : ((n : Int) == 0) = false := beq_eq_false_iff_ne.2 (by omega)
                by_cases hq2 : q < 19
                · have hm18 := ten18 HM.out (by omega)
                  have hst : rdF s P (i, m, n, q, dp, tr) = some (i + 1, m * 10 + (btx s i - 48), n + 1, q + 1, dp, tr) := by unfold rdF; rw [if_pos hlt, if_neg HD.out, if_neg (fun h => hn0 h.2), if_pos hq2]
                  rw [HBX.out] at hst
                  have HI2 := Lib.hid (HI.out.go HC.out (by rw [← HBX.out] at hst; exact hst)).1
                  have HT2 := Lib.hid (HT.out.next hst)
                  clear hst
                  go_wp2_with fail
                  exact ⟨⟨i + 1, m * 10 + ((s[i]'hlt).toNat - 48), n + 1, q + 1, dp, tr, true, by rw [← HBX.out]; exact HI2.out, HT2.out, congrArg (Value.int .u64) (ten_snocI _ c1 m), rfl, by go_num, rfl, congrArg Value.bool (dec_step HD.out), rfl, fun _ => rfl, by go_num, by go_num, rfl, k, rfl⟩, by simp [intOf]; omega⟩
                · have hst : rdF s P (i, m, n, q, dp, tr) = some (i + 1, m, n + 1, q, dp, tr || decide (btx s i ≠ 48)) := by unfold rdF; rw [if_pos hlt, if_neg HD.out, if_neg (fun h => hn0 h.2), if_neg hq2]
                  rw [show (tr || decide (btx s i ≠ 48)) = tr by rw [HB48.out]; simp] at hst
                  have HI2 := Lib.hid (HI.out.go HC.out hst).1
                  have HT2 := Lib.hid (HT.out.next hst)
                  clear hst
                  go_wp2_with fail
                  exact ⟨⟨i + 1, m, n + 1, q, dp, tr, true, HI2.out, HT2.out, rfl, rfl, by go_num, rfl, congrArg Value.bool (dec_step HD.out), rfl, fun _ => rfl, by go_num, rfl, rfl, k, rfl⟩, by simp [intOf]; omega⟩
            · have z48 : (((s[i]'hlt).toNat : Int) == 48) = false := beq_eq_false_iff_ne.2 (by omega)
              have z48' : (((s[i]'hlt).toNat : Int) != 48) = true := by rw [bne_iff_ne]; omega
              have hb48 : btx s i ≠ 48 := by rw [HBX.out]; exact h48
              have H48 := Lib.hid h48; have HB48 := Lib.hid hb48; clear h48 hb48
              by_cases hq2 : q < 19
              · have hm18 := ten18 HM.out (by omega)
                have hst : rdF s P (i, m, n, q, dp, tr) = some (i + 1, m * 10 + (btx s i - 48), n + 1, q + 1, dp, tr) := by unfold rdF; rw [if_pos hlt, if_neg HD.out, if_neg (fun h => HB48.out h.1), if_pos hq2]
                rw [HBX.out] at hst
                have HI2 := Lib.hid (HI.out.go HC.out (by rw [← HBX.out] at hst; exact hst)).1
                have HT2 := Lib.hid (HT.out.next hst)
                clear hst
                go_wp2_with fail
                exact ⟨⟨i + 1, m * 10 + ((s[i]'hlt).toNat - 48), n + 1, q + 1, dp, tr, true, by rw [← HBX.out]; exact HI2.out, HT2.out, congrArg (Value.int .u64) (ten_snocI _ c1 m), rfl, by go_num, rfl, congrArg Value.bool (dec_step HD.out), rfl, fun _ => rfl, by go_num, by go_num, rfl, k, rfl⟩, by simp [intOf]; omega⟩
              · have hst : rdF s P (i, m, n, q, dp, tr) = some (i + 1, m, n + 1, q, dp, tr || decide (btx s i ≠ 48)) := by unfold rdF; rw [if_pos hlt, if_neg HD.out, if_neg (fun h => HB48.out h.1), if_neg hq2]
                rw [show (tr || decide (btx s i ≠ 48)) = true by rw [decide_eq_true HB48.out]; simp] at hst
                have HI2 := Lib.hid (HI.out.go HC.out hst).1
                have HT2 := Lib.hid (HT.out.next hst)
                clear hst
                go_wp2_with fail
                exact ⟨⟨i + 1, m, n + 1, q, dp, true, true, HI2.out, HT2.out, rfl, rfl, by go_num, rfl, congrArg Value.bool (dec_step HD.out), rfl, fun _ => rfl, by go_num, rfl, rfl, k, rfl⟩, by simp [intOf]; omega⟩
        · have hte := HT.out.last (show rdF s P (i, m, n, q, dp, tr) = none from if_neg hlt)
          obtain rfl : i = s.size := by omega
          subst hte
          have hsg1 := hsg (by omega)
          subst hsg1
          have hPi : P < s.size := by omega
          by_cases hm0 : m = 0
          · subst hm0
            go_wp2_with fail
            exact bodyPost_ret (v := .tuple #[.int .u64 (0 : Nat), .int .i64 0, .bool false, .bool tr, .bool false, .int .i64 s.size, .bool true]) (by simp [results, Tryz.results180, go_sem]) rfl ⟨rfl, k, rfl⟩
          · have zm : ((m : Int) != 0) = true := by rw [bne_iff_ne]; omega
            have hif : (if m = 0 then (0 : Int) else dp - q) = dp - q := if_neg hm0
            have HIF := Lib.hid hif; clear hif
            go_wp2_with fail
            exact bodyPost_ret (v := .tuple #[.int .u64 m, .int .i64 (dp - q), .bool false, .bool tr, .bool false, .int .i64 s.size, .bool true]) (by simp [results, Tryz.results180, go_sem]) rfl ⟨by have := HIF.out; first | rfl | (dsimp only; done) | (dsimp only; rw [this]), k, rfl⟩
end Go.Proofs.YtfkecmlmnhbmoaaGreatDoor
