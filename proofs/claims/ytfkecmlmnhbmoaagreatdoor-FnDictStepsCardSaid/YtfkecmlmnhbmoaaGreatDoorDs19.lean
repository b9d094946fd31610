import Derived.Test.YtfkecmlmnhbmoaaGreatDoorDs09
import Derived.WalkMore
import Derived.Deep.LoopGhost
namespace Go.Proofs.YtfkecmlmnhbmoaaGreatDoor
open Go.RowKit
/-- What readFloat hands back of a numeral. -/
def RdF (s : ByteArray) (e : Ending) : Prop := ∃ (m : Nat) (x : Int) (ng tr : Bool), e = .returned (.tuple #[.int .u64 m, .int .i64 x, .bool ng, .bool tr, .bool false, .int .i64 s.size, .bool true]) ∧ m < 10000000000000000000 ∧ -300 ≤ x ∧ x ≤ 200
def RdL (s : ByteArray) (g P : Nat) (w : World) (vm vt vi vu vsd vsg vn vq vp : Value) (wr : World) : Prop :=
  ∃ (i m n q : Nat) (dp : Int) (tr sg : Bool), i ≤ s.size ∧ g ≤ i ∧ vm = .int .u64 m ∧ vt = .bool tr ∧ vi = .int .i64 i ∧ vu = .bool false ∧ vsd = .bool (decide (P < i)) ∧ vsg = .bool sg ∧ (g < i → sg = true) ∧ vn = .int .i64 n ∧ vq = .int .i64 q ∧ vp = .int .i64 dp ∧
    m < 10 ^ q ∧ q ≤ 19 ∧ q ≤ n ∧ n ≤ i ∧ -(i : Int) ≤ dp ∧ dp ≤ i ∧ ∃ k, wr = w.drewN k
theorem ten18 {m q : Nat} (h : m < 10 ^ q) (hq : q ≤ 18) : m ≤ 999999999999999999 := by
  have : 10 ^ q ≤ 10 ^ 18 := Nat.pow_le_pow_right (by decide) hq
  have h2 : (10 : Nat) ^ 18 = 1000000000000000000 := by decide
  omega
theorem ten19 {m q : Nat} (h : m < 10 ^ q) (hq : q ≤ 19) : m < 10000000000000000000 := by
  have : 10 ^ q ≤ 10 ^ 19 := Nat.pow_le_pow_right (by decide) hq
  have h2 : (10 : Nat) ^ 19 = 10000000000000000000 := by decide
  omega
theorem ten_snoc {m q d : Nat} (h : m < 10 ^ q) (hd : d ≤ 9) : m * 10 + d < 10 ^ (q + 1) := by rw [Nat.pow_succ]; omega
theorem ten_snocI (c : Nat) (h1 : 48 ≤ c) (m : Nat) : (m : Int) * 10 + ((c : Int) - 48) = ((m * 10 + (c - 48) : Nat) : Int) := by omega
theorem dec_step {P i : Nat} (h : i ≠ P) : decide (P < i) = decide (P < i + 1) := by rw [decide_eq_decide]; omega
theorem NumS.any {s : ByteArray} {g L : Nat} (h : NumS s g L) (i : Nat) (hi : i < s.size) : 45 ≤ (s[i]'hi).toNat ∧ (s[i]'hi).toNat ≤ 57 := by
  have hsz := h.size
  have hg := h.g1
  by_cases h1 : i < g
  · obtain rfl : i = 0 := by omega
    have := h.sign hi (by omega); omega
  · by_cases h2 : i = g + L
    · subst h2; have := h.dot hi; omega
    · have := h.dig i hi (by omega) h2; omega
theorem NumS.dotAt {s : ByteArray} {g L : Nat} (h : NumS s g L) {i : Nat} (hi : i < s.size) (e : i = g + L) : (((s[i]'hi).toNat : Int) == 46) = true := by
  subst e
  rw [h.dot hi]; rfl
set_option maxRecDepth 100000 in
set_option maxHeartbeats 4000000 in
theorem readf (s : ByteArray) (g L : Nat) (w : World) (hs : NumS s g L) :
    Calls Tryz.prog 180 #[.string s] w fun e w' => RdF s e ∧ ∃ k, w' = w.drewN k := by
  have hsz := hs.size
  have hl1 := hs.l1; have hl2 := hs.l2; have hg1 := hs.g1
  by_cases hg : g = 1
  · subst hg
    have hlen : 3 < s.size := by omega
    have hlen2 : s.size ≤ 1000 := by omega
    have hlen0 : 0 < s.size := by omega
    have hne : ¬ s = ByteArray.empty := by intro h; subst h; simp at hlen
    have hlen1 : 1 < s.size := by omega
    have hlen3 : 2 < s.size := by omega
    have d0 := hs.sign hlen0 rfl
    have d1 := hs.any 2 hlen3
    have z1 : (((s[0]'hlen0).toNat : Int) == 43) = false := beq_eq_false_iff_ne.2 (by omega)
    have z2 : (((s[0]'hlen0).toNat : Int) == 45) = true := beq_iff_eq.2 (by omega)
    have zx : (((s[2]'hlen3).toNat : Int) == 120) = false := beq_eq_false_iff_ne.2 (by omega)
    obtain ⟨P, hP⟩ : ∃ P, P = 1 + L := ⟨_, rfl⟩
    have hP1 : 1 ≤ P := by omega
    have hP4 : P ≤ 38 := by omega
    have hP2 : P + 13 ≤ s.size := by omega
    have hP3 : s.size ≤ P + 13 := by omega
    have HP := Lib.hid hP
    have HS := Lib.hid hs; clear hs hsz hP d0
    go_enter Tryz.func180, Tryz.ntmps180
    go_wp2_with fail
    go_step3
    go_wp2_with (go_at_call 194; refine (lowr _ _ d1.1 d1.2).mono ?_; rintro e w' ⟨rfl, rfl⟩)
    all_goals
      go_step3
      go_wp2_with fail
      go_loopw [2, 5, 7, 9, 13, 14, 15, 16, 17] (RdL s 1 P w) (fun _ _ vi _ _ _ _ _ _ _ => s.size - (intOf vi).toNat)
      case atStart => exact ⟨1, 0, 0, 0, 0, false, false, by omega, Nat.le_refl _, rfl, rfl, rfl, rfl, congrArg Value.bool (decide_eq_false (by omega)).symm, rfl, fun h => by omega, rfl, rfl, rfl, by decide, by omega, by omega, by omega, by omega, by omega, 0, rfl⟩
      case round =>
        obtain ⟨i, m, n, q, dp, tr, sg, hi, hgi, rfl, rfl, rfl, rfl, rfl, rfl, hsg, rfl, rfl, rfl, hm, hq, hqn, hni, hdp1, hdp2, k, rfl⟩ := hrel
        have hm19 := ten19 hm hq
        have HM := Lib.hid hm; clear hm
        by_cases hlt : i < s.size
        · have z95 : (((s[i]'hlt).toNat : Int) == 95) = false := by have := HS.out.any i hlt; exact beq_eq_false_iff_ne.2 (by omega)
          by_cases hd : i = P
          · have zz : (((s[i]'hlt).toNat : Int) == 46) = true := HS.out.dotAt hlt (by have hp := HP.out; omega)
            have hPi : i ≤ P := by omega
            have hPi2 : P ≤ i := by omega
            have HD := Lib.hid hd; clear hd
            go_wp2_with fail
            exact ⟨⟨i + 1, m, n, q, n, tr, sg, by omega, by omega, rfl, rfl, by go_num, rfl, congrArg Value.bool (by have := HD.out; simp; omega), rfl, fun h => hsg (by have := HD.out; have := HS.out.l1; have := HP.out; omega), rfl, rfl, rfl, HM.out, hq, hqn, by omega, by omega, by omega, k, rfl⟩, by simp [intOf]; omega⟩
          · have hdg := HS.out.dig i hlt (by omega) (by have hp := HP.out; omega)
            obtain ⟨c1, c2⟩ := hdg
            have z46 : (((s[i]'hlt).toNat : Int) == 46) = false := beq_eq_false_iff_ne.2 (by omega)
            have HD := Lib.hid hd; clear hd
            by_cases h48 : (s[i]'hlt).toNat = 48
            · have z48 : (((s[i]'hlt).toNat : Int) == 48) = true := beq_iff_eq.2 (by omega)
              have z48' : (((s[i]'hlt).toNat : Int) != 48) = false := by rw [bne_eq_false_iff_eq]; omega
              have H48 := Lib.hid h48; clear h48
              by_cases hn0 : n = 0
              · subst hn0
                go_wp2_with fail
                exact ⟨⟨i + 1, m, 0, q, dp - 1, tr, true, by omega, by omega, rfl, rfl, by go_num, rfl, congrArg Value.bool (dec_step HD.out), rfl, fun _ => rfl, rfl, rfl, rfl, HM.out, by omega, by omega, by omega, by omega, by omega, k, rfl⟩, by simp [intOf]; omega⟩
              · have zn : ((n : Int) == 0) = false := beq_eq_false_iff_ne.2 (by omega)
                by_cases hq2 : q < 19
                · have hm18 := ten18 HM.out (by omega)
                  go_wp2_with fail
                  exact ⟨⟨i + 1, m * 10 + ((s[i]'hlt).toNat - 48), n + 1, q + 1, dp, tr, true, by omega, by omega, congrArg (Value.int .u64) (ten_snocI _ c1 m), rfl, by go_num, rfl, congrArg Value.bool (dec_step HD.out), rfl, fun _ => rfl, by go_num, by go_num, rfl, ten_snoc HM.out (by omega), by omega, by omega, by omega, by omega, by omega, k, rfl⟩, by simp [intOf]; omega⟩
                · go_wp2_with fail
                  exact ⟨⟨i + 1, m, n + 1, q, dp, tr, true, by omega, by omega, rfl, rfl, by go_num, rfl, congrArg Value.bool (dec_step HD.out), rfl, fun _ => rfl, by go_num, rfl, rfl, HM.out, by omega, by omega, by omega, by omega, by omega, k, rfl⟩, by simp [intOf]; omega⟩
            · have z48 : (((s[i]'hlt).toNat : Int) == 48) = false := beq_eq_false_iff_ne.2 (by omega)
              have z48' : (((s[i]'hlt).toNat : Int) != 48) = true := by rw [bne_iff_ne]; omega
              have H48 := Lib.hid h48; clear h48
              by_cases hq2 : q < 19
              · have hm18 := ten18 HM.out (by omega)
                go_wp2_with fail
                exact ⟨⟨i + 1, m * 10 + ((s[i]'hlt).toNat - 48), n + 1, q + 1, dp, tr, true, by omega, by omega, congrArg (Value.int .u64) (ten_snocI _ c1 m), rfl, by go_num, rfl, congrArg Value.bool (dec_step HD.out), rfl, fun _ => rfl, by go_num, by go_num, rfl, ten_snoc HM.out (by omega), by omega, by omega, by omega, by omega, by omega, k, rfl⟩, by simp [intOf]; omega⟩
              · go_wp2_with fail
                exact ⟨⟨i + 1, m, n + 1, q, dp, true, true, by omega, by omega, rfl, rfl, by go_num, rfl, congrArg Value.bool (dec_step HD.out), rfl, fun _ => rfl, by go_num, rfl, rfl, HM.out, by omega, by omega, by omega, by omega, by omega, k, rfl⟩, by simp [intOf]; omega⟩
        · obtain rfl : i = s.size := by omega
          have hsg1 := hsg (by omega)
          subst hsg1
          have hPi : P < s.size := by omega
          by_cases hm0 : m = 0
          · subst hm0
            go_wp2_with fail
            exact bodyPost_ret (v := .tuple #[.int .u64 (0 : Nat), .int .i64 0, .bool true, .bool tr, .bool false, .int .i64 s.size, .bool true]) (by simp [results, Tryz.results180, go_sem]) rfl ⟨⟨0, 0, _, tr, rfl, by decide, by omega, by omega⟩, k, rfl⟩
          · have zm : ((m : Int) != 0) = true := by rw [bne_iff_ne]; omega
            go_wp2_with fail
            exact bodyPost_ret (v := .tuple #[.int .u64 m, .int .i64 (dp - q), .bool true, .bool tr, .bool false, .int .i64 s.size, .bool true]) (by simp [results, Tryz.results180, go_sem]) rfl ⟨⟨m, _, _, tr, rfl, hm19, by omega, by omega⟩, k, rfl⟩
  · obtain rfl : g = 0 := by omega
    have hlen : 2 < s.size := by omega
    have hlen2 : s.size ≤ 1000 := by omega
    have hlen0 : 0 < s.size := by omega
    have hne : ¬ s = ByteArray.empty := by intro h; subst h; simp at hlen
    have hlen1 : 1 < s.size := by omega
    have d0 := hs.dig 0 hlen0 (by omega) (by omega)
    have d1 := hs.any 1 hlen1
    have z1 : (((s[0]'hlen0).toNat : Int) == 43) = false := beq_eq_false_iff_ne.2 (by omega)
    have z2 : (((s[0]'hlen0).toNat : Int) == 45) = false := beq_eq_false_iff_ne.2 (by omega)
    have zx : (((s[1]'hlen1).toNat : Int) == 120) = false := beq_eq_false_iff_ne.2 (by omega)
    obtain ⟨P, hP⟩ : ∃ P, P = 0 + L := ⟨_, rfl⟩
    have hP1 : 1 ≤ P := by omega
    have hP4 : P ≤ 38 := by omega
    have hP2 : P + 13 ≤ s.size := by omega
    have hP3 : s.size ≤ P + 13 := by omega
    have HP := Lib.hid hP
    have HS := Lib.hid hs; clear hs hsz hP
    go_enter Tryz.func180, Tryz.ntmps180
    go_wp2_with fail
    go_step3
    go_wp2_with (go_at_call 194; refine (lowr _ _ d1.1 d1.2).mono ?_; rintro e w' ⟨rfl, rfl⟩)
    all_goals
      go_step3
      go_wp2_with fail
      go_loopw [2, 5, 7, 9, 13, 14, 15, 16, 17] (RdL s 0 P w) (fun _ _ vi _ _ _ _ _ _ _ => s.size - (intOf vi).toNat)
      case atStart => exact ⟨0, 0, 0, 0, 0, false, false, by omega, Nat.le_refl _, rfl, rfl, rfl, rfl, congrArg Value.bool (decide_eq_false (by omega)).symm, rfl, fun h => by omega, rfl, rfl, rfl, by decide, by omega, by omega, by omega, by omega, by omega, 0, rfl⟩
      case round =>
        obtain ⟨i, m, n, q, dp, tr, sg, hi, hgi, rfl, rfl, rfl, rfl, rfl, rfl, hsg, rfl, rfl, rfl, hm, hq, hqn, hni, hdp1, hdp2, k, rfl⟩ := hrel
        have hm19 := ten19 hm hq
        have HM := Lib.hid hm; clear hm
        by_cases hlt : i < s.size
        · have z95 : (((s[i]'hlt).toNat : Int) == 95) = false := by have := HS.out.any i hlt; exact beq_eq_false_iff_ne.2 (by omega)
          by_cases hd : i = P
          · have zz : (((s[i]'hlt).toNat : Int) == 46) = true := HS.out.dotAt hlt (by have hp := HP.out; omega)
            have hPi : i ≤ P := by omega
            have hPi2 : P ≤ i := by omega
            have HD := Lib.hid hd; clear hd
            go_wp2_with fail
            exact ⟨⟨i + 1, m, n, q, n, tr, sg, by omega, by omega, rfl, rfl, by go_num, rfl, congrArg Value.bool (by have := HD.out; simp; omega), rfl, fun h => hsg (by have := HD.out; have := HS.out.l1; have := HP.out; omega), rfl, rfl, rfl, HM.out, hq, hqn, by omega, by omega, by omega, k, rfl⟩, by simp [intOf]; omega⟩
          · have hdg := HS.out.dig i hlt (by omega) (by have hp := HP.out; omega)
            obtain ⟨c1, c2⟩ := hdg
            have z46 : (((s[i]'hlt).toNat : Int) == 46) = false := beq_eq_false_iff_ne.2 (by omega)
            have HD := Lib.hid hd; clear hd
            by_cases h48 : (s[i]'hlt).toNat = 48
            · have z48 : (((s[i]'hlt).toNat : Int) == 48) = true := beq_iff_eq.2 (by omega)
              have z48' : (((s[i]'hlt).toNat : Int) != 48) = false := by rw [bne_eq_false_iff_eq]; omega
              have H48 := Lib.hid h48; clear h48
              by_cases hn0 : n = 0
              · subst hn0
                go_wp2_with fail
                exact ⟨⟨i + 1, m, 0, q, dp - 1, tr, true, by omega, by omega, rfl, rfl, by go_num, rfl, congrArg Value.bool (dec_step HD.out), rfl, fun _ => rfl, rfl, rfl, rfl, HM.out, by omega, by omega, by omega, by omega, by omega, k, rfl⟩, by simp [intOf]; omega⟩
              · have zn : ((n : Int) == 0) = false := beq_eq_false_iff_ne.2 (by omega)
                by_cases hq2 : q < 19
                · have hm18 := ten18 HM.out (by omega)
                  go_wp2_with fail
                  exact ⟨⟨i + 1, m * 10 + ((s[i]'hlt).toNat - 48), n + 1, q + 1, dp, tr, true, by omega, by omega, congrArg (Value.int .u64) (ten_snocI _ c1 m), rfl, by go_num, rfl, congrArg Value.bool (dec_step HD.out), rfl, fun _ => rfl, by go_num, by go_num, rfl, ten_snoc HM.out (by omega), by omega, by omega, by omega, by omega, by omega, k, rfl⟩, by simp [intOf]; omega⟩
                · go_wp2_with fail
                  exact ⟨⟨i + 1, m, n + 1, q, dp, tr, true, by omega, by omega, rfl, rfl, by go_num, rfl, congrArg Value.bool (dec_step HD.out), rfl, fun _ => rfl, by go_num, rfl, rfl, HM.out, by omega, by omega, by omega, by omega, by omega, k, rfl⟩, by simp [intOf]; omega⟩
            · have z48 : (((s[i]'hlt).toNat : Int) == 48) = false := beq_eq_false_iff_ne.2 (by omega)
              have z48' : (((s[i]'hlt).toNat : Int) != 48) = true := by rw [bne_iff_ne]; omega
              have H48 := Lib.hid h48; clear h48
              by_cases hq2 : q < 19
              · have hm18 := ten18 HM.out (by omega)
                go_wp2_with fail
                exact ⟨⟨i + 1, m * 10 + ((s[i]'hlt).toNat - 48), n + 1, q + 1, dp, tr, true, by omega, by omega, congrArg (Value.int .u64) (ten_snocI _ c1 m), rfl, by go_num, rfl, congrArg Value.bool (dec_step HD.out), rfl, fun _ => rfl, by go_num, by go_num, rfl, ten_snoc HM.out (by omega), by omega, by omega, by omega, by omega, by omega, k, rfl⟩, by simp [intOf]; omega⟩
              · go_wp2_with fail
                exact ⟨⟨i + 1, m, n + 1, q, dp, true, true, by omega, by omega, rfl, rfl, by go_num, rfl, congrArg Value.bool (dec_step HD.out), rfl, fun _ => rfl, by go_num, rfl, rfl, HM.out, by omega, by omega, by omega, by omega, by omega, k, rfl⟩, by simp [intOf]; omega⟩
        · obtain rfl : i = s.size := by omega
          have hsg1 := hsg (by omega)
          subst hsg1
          have hPi : P < s.size := by omega
          by_cases hm0 : m = 0
          · subst hm0
            go_wp2_with fail
            exact bodyPost_ret (v := .tuple #[.int .u64 (0 : Nat), .int .i64 0, .bool false, .bool tr, .bool false, .int .i64 s.size, .bool true]) (by simp [results, Tryz.results180, go_sem]) rfl ⟨⟨0, 0, _, tr, rfl, by decide, by omega, by omega⟩, k, rfl⟩
          · have zm : ((m : Int) != 0) = true := by rw [bne_iff_ne]; omega
            go_wp2_with fail
            exact bodyPost_ret (v := .tuple #[.int .u64 m, .int .i64 (dp - q), .bool false, .bool tr, .bool false, .int .i64 s.size, .bool true]) (by simp [results, Tryz.results180, go_sem]) rfl ⟨⟨m, _, _, tr, rfl, hm19, by omega, by omega⟩, k, rfl⟩
end Go.Proofs.YtfkecmlmnhbmoaaGreatDoor
