import Derived.Test.YtfkecmlmnhbmoaaGreatDoorDs12
namespace Go.Proofs.YtfkecmlmnhbmoaaGreatDoor
open Go.RowKit
/-- The table of what a shift adds. -/
def Cheat (N : Nat) (w : World) : Prop := ∃ b o cap, b < N ∧ w.cell? ⟨25, 0, none⟩ = some (.slice (some ⟨b, o, none⟩) 61 cap) ∧
  ∀ i, i < 61 → w.cell? ⟨b, o + i * 2, none⟩ = some (.int .i64 (dlt i : Nat)) ∧ w.cell? ⟨b, o + i * 2 + 1, none⟩ = some (.string ⟨(cut i).toArray⟩)
theorem cut_size (k : Nat) (hk : 1 ≤ k) : (⟨(cut k).toArray⟩ : ByteArray).size = Lib.nDigits (5 ^ k) := by
  show Array.size _ = _
  unfold cut; rw [if_neg (by omega)]
  simp [Lib.decDigits_length]
theorem cut_digit (k : Nat) (hk : 1 ≤ k) (i : Nat) (h : i < (⟨(cut k).toArray⟩ : ByteArray).size) : ((⟨(cut k).toArray⟩ : ByteArray)[i]'h).toNat = 48 + 5 ^ k / 10 ^ (Lib.nDigits (5 ^ k) - 1 - i) % 10 := by
  have h2 := h
  rw [cut_size k hk] at h2
  have e : ((⟨(cut k).toArray⟩ : ByteArray)[i]'h) = Lib.dg (5 ^ k) (Lib.nDigits (5 ^ k) - 1 - i) := by
    show (cut k).toArray[i]'_ = _
    simp only [cut, if_neg (show ¬ k = 0 by omega), List.getElem_toArray, Lib.decDigits_eq, List.getElem_map, List.getElem_range]
  rw [e]
  unfold Lib.dg
  rw [UInt8.toNat_ofNat']; omega
theorem five_last (k : Nat) (hk : 1 ≤ k) : 5 ^ k % 10 ≠ 0 := by
  obtain ⟨j, rfl⟩ : ∃ j, k = j + 1 := ⟨k - 1, by omega⟩
  have : 5 ^ j % 2 = 1 := by
    induction j with
    | zero => rfl
    | succ j ih => rw [Nat.pow_succ]; have := ih (by omega); omega
  rw [Nat.pow_succ]; omega
/-- What a shift adds, by the comparison. -/
theorem adds (D k n : Nat) (b : Bool) (hk : 1 ≤ k) (hk2 : k ≤ 60) (h1 : D < 10 ^ (n + 1)) (h2 : 10 ^ n ≤ D)
    (ht : b = true → D * 10 ^ Lib.nDigits (5 ^ k) < 5 ^ k * 10 ^ (n + 1)) (hf : b = false → 5 ^ k * 10 ^ (n + 1) ≤ D * 10 ^ Lib.nDigits (5 ^ k)) :
    ∃ a : Nat, ((dlt k : Nat) : Int) - (if b then 1 else 0) = (a : Int) ∧ a ≤ 19 ∧ 10 ^ (n + a) ≤ D * 2 ^ k ∧ D * 2 ^ k < 10 ^ (n + 1 + a) := by
  obtain h | ⟨g1, g2, g3, g4, g5⟩ := dlt_fin ⟨k, by omega⟩
  · dsimp only at h; omega
  dsimp only at g1 g2 g3 g4 g5
  have hdl : dlt k = Lib.nDigits (2 ^ k) := if_neg (by omega)
  rw [hdl]
  generalize Lib.nDigits (2 ^ k) = d at g1 g2 g3 g4 g5
  have hc := Lib.nDigits_pos (5 ^ k)
  generalize Lib.nDigits (5 ^ k) = c at g1 ht hf hc
  have e10 : 5 ^ k * 2 ^ k = 10 ^ k := by rw [← Nat.mul_pow]
  have p2 : 0 < 2 ^ k := Nat.two_pow_pos k
  cases b
  · refine ⟨d, by simp, g3, ?_, ?_⟩
    · have h3 := Nat.mul_le_mul_right (2 ^ k) (hf rfl)
      rw [Nat.mul_right_comm, e10, Nat.mul_right_comm, ← Nat.pow_add, show k + (n + 1) = (n + d) + c by omega, Nat.pow_add] at h3
      exact Nat.le_of_mul_le_mul_right h3 (p10 c)
    · rw [Nat.pow_add]
      exact Nat.lt_of_lt_of_le (Nat.mul_lt_mul_of_pos_right h1 p2) (Nat.mul_le_mul_left _ (Nat.le_of_lt g4))
  · refine ⟨d - 1, by simp; omega, by omega, ?_, ?_⟩
    · rw [Nat.pow_add]
      exact Nat.mul_le_mul h2 g5
    · have h3 := Nat.mul_lt_mul_of_pos_right (ht rfl) p2
      rw [Nat.mul_right_comm, Nat.mul_right_comm (5 ^ k), e10, ← Nat.pow_add, show k + (n + 1) = (n + 1 + (d - 1)) + c by omega, Nat.pow_add] at h3
      exact Nat.lt_of_mul_lt_mul_right h3
set_option maxRecDepth 100000 in
set_option maxHeartbeats 4000000 in
theorem lshift (B : Nat) (x : Nat → Nat) (nd : Nat) (dp : Int) (ng tr : Bool) (k N : Nat) (w : World) (hch : Cheat N w) (_hN : N ≤ B) (hD : Dec w B x nd dp ng tr) (hd : Dg x nd) (h1 : 1 ≤ nd) (h8 : nd ≤ 800) (h0 : x 0 ≠ 48) (hk1 : 1 ≤ k) (hk2 : k ≤ 60)
    (hp1 : -1000000000 ≤ dp) (hp2 : dp ≤ 1000000000) :
    Calls Tryz.prog 206 #[.pointer (some ⟨B, 0, none⟩), .int .u64 k] w fun en w' => en = .returned (.tuple #[]) ∧ Kept [B] w w' ∧
      ∃ x' nd' a tr', Dec w' B x' nd' (dp + (a : Nat)) ng tr' ∧ Dg x' nd' ∧ 1 ≤ nd' ∧ nd' ≤ 800 ∧ x' 0 ≠ 48 ∧ a ≤ 19 ∧ (a = 0 → 48 + (x 0 - 48) * 2 ^ k ≤ x' 0) := by
  obtain ⟨tb, to, tc, tN, tg, tt⟩ := hch
  obtain ⟨ct, cs⟩ := tt k (by omega)
  have hf := hD.free
  have cN := hD.n; have cP := hD.p
  obtain ⟨n, rfl⟩ : ∃ n, nd = n + 1 := ⟨nd - 1, by omega⟩
  have hDlt := num_lt hd
  have hDge := num_ge h0 hd
  have hc60 : Lib.nDigits (5 ^ k) ≤ 100 := by
    obtain h | ⟨g1, g2, _⟩ := dlt_fin ⟨k, by omega⟩
    · dsimp only at h; omega
    · dsimp only at g1 g2; omega
  have hpre : ∀ W : World, (∃ m, W = w.drewN m) → Calls Tryz.prog 234 #[.slice (some ⟨B, 0, none⟩) (n + 1) 800, .string ⟨(cut k).toArray⟩] W fun en w' => en = .returned (.bool (decide (num x (n + 1) * 10 ^ Lib.nDigits (5 ^ k) < 5 ^ k * 10 ^ (n + 1)))) ∧ ∃ m, w' = W.drewN m := fun W ⟨m, hm⟩ => by
    subst hm
    exact prefixlt' B x (n + 1) 800 (5 ^ k) _ _ _ (fun i hi => by rw [World.cell?_drewN]; exact hD.dig i (by omega)) h8 hd (cut_size k hk1) hc60 (cut_digit k hk1) (five_last k hk1) (Lib.lt_pow_nDigits _)
  obtain ⟨b, hb⟩ : ∃ b, b = decide (num x (n + 1) * 10 ^ Lib.nDigits (5 ^ k) < 5 ^ k * 10 ^ (n + 1)) := ⟨_, rfl⟩
  rw [← hb] at hpre
  obtain ⟨a, ha, ha19, hlo, hhi⟩ := adds (num x (n + 1)) k n b hk1 hk2 hDlt hDge (fun h => of_decide_eq_true (hb.symm.trans h)) (fun h => by have := of_decide_eq_false (hb.symm.trans h); omega)
  have HP := Lib.hid hpre; clear hpre hb tt
  have Hhi := Lib.hid hhi; have Hlo := Lib.hid hlo; have HDlt := Lib.hid hDlt; clear hhi hlo hDlt hDge hc60
  have c800 : ((n + 1 : Nat) : Int) ≤ 800 := by omega
  have hsl : ∀ W, (Instr.sliceAt 246 (.pointer (some ⟨B, 0, none⟩)) (some (.int .i64 0)) (some (.int .i64 ((n : Int) + 1))) none).run Tryz.prog W = .ok (.slice (some ⟨B, 0, none⟩) (n + 1) 800) W := fun W => by
    have hal : Tryz.prog.arrayLen 246 = 800 := by kernel_rfl
    rw [run_sliceAt_array_lh W 246 ⟨B, 0, none⟩ (by simp [Program.arrayLen, Program.elem, Tryz.underlying246]) .i64 .i64 0 ((n : Int) + 1) (by omega) (by omega) (by rw [hal]; omega)]
    go_simp
  go_enter Tryz.func206, Tryz.ntmps206
  go_wp2_with fail
  go_quiet ((go_at_call 234; exact Calls.quiet_of (HP.out _ ⟨_, rfl⟩)))
  have Dq := hD.drewN nq
  have Kq := (Kept.refl [B] w).drewN nq
  have cs0 := hf
  generalize w.drewN nq = w1 at Dq Kq ⊢
  clear hD cN cP ct cs tg hf cs0
  have cN := Dq.n
  have hP : 2 ^ k ≤ 1152921504606846976 := by
    have : 2 ^ k ≤ 2 ^ 60 := Nat.pow_le_pow_right (by decide) hk2
    exact this
  have hP0 : 0 < 2 ^ k := Nat.two_pow_pos k
  cases b
  case' false =>
    have ha1 : ((dlt k : Nat) : Int) = (a : Int) := by simpa using ha
    clear ha
    go_wp2_with fail
  case' true =>
    have ha1 : ((dlt k : Nat) : Int) - 1 = (a : Int) := by simpa using ha
    clear ha
    go_wp2_with fail
  all_goals
    clear cN
    go_loopw [5, 6, 7] (fun vr vw vn wr => ∃ (j : Nat) (y : Nat → Nat) (tr' : Bool), j ≤ n + 1 ∧ vr = .int .i64 ((n : Int) - j) ∧ vw = .int .i64 ((n : Int) + 1 + a - j) ∧ vn = .int .u64 (((num x (n + 1) % 10 ^ j) * 2 ^ k / 10 ^ j : Nat) : Int) ∧ Dec wr B y (n + 1) dp ng tr' ∧ Kept [B] w wr ∧ (∀ i, i < n + 1 - j → y i = x i) ∧ (∀ i, n + 1 + a - j ≤ i → i < n + 1 + a → i < 800 → 48 ≤ y i ∧ y i ≤ 57) ∧ (a = 0 → j = n + 1 → 48 + (x 0 - 48) * 2 ^ k ≤ y 0)) (fun vr _ _ _ => (intOf vr + 1).toNat)
    case atStart => exact ⟨0, x, tr, by omega, congrArg (Value.int .i64) (by omega), congrArg (Value.int .i64) (by omega), congrArg (Value.int .u64) (by simp [Nat.mod_one]), Dq, Kq, fun i hi => rfl, fun i h2 h3 => by omega, fun h2 h3 => by omega⟩
    case round =>
      clear Dq Kq
      obtain ⟨j, y, tr', hj, rfl, rfl, rfl, hDr, hKr, hy, hw, hz⟩ := hrel
      have hclt := carry_lt (num x (n + 1)) (2 ^ k) j hP0
      have hstep := carry_step (num x (n + 1)) (2 ^ k) j
      have hf := hDr.free
      by_cases hlt : j < n + 1
      · obtain ⟨rr, hrr⟩ : ∃ rr : Nat, (n : Int) - (j : Int) = (rr : Int) := ⟨n - j, by omega⟩
        obtain ⟨wi, hwi⟩ : ∃ wi : Nat, (n : Int) + 1 + (a : Int) - (j : Int) - 1 = (wi : Int) := ⟨n + a - j, by omega⟩
        have cD := hDr.dig rr (by omega)
        rw [hy rr (by omega)] at cD
        have hx := hd rr (by omega)
        rw [num_digit hd hlt, show n + 1 - 1 - j = rr by omega] at hstep
        generalize hcn : num x (n + 1) % 10 ^ j * 2 ^ k / 10 ^ j = cn at hclt hstep ⊢
        obtain ⟨sh, hsh, hsh2⟩ : ∃ sh : Nat, ((x rr : Int) - 48) * 2 ^ k = (sh : Int) ∧ sh = (x rr - 48) * 2 ^ k := ⟨(x rr - 48) * 2 ^ k, by
          have : ((x rr : Int) - 48) = ((x rr - 48 : Nat) : Int) := by omega
          rw [this]; simp, rfl⟩
        rw [← hsh2] at hstep
        have hsh9 : sh ≤ 9 * 2 ^ k := by rw [hsh2]; exact Nat.mul_le_mul_right _ (by omega)
        have Hsh2 := Lib.hid hsh2; clear hsh2
        obtain ⟨s, hs⟩ : ∃ s : Nat, (cn : Int) + (sh : Int) = (s : Int) := ⟨cn + sh, by omega⟩
        have hs2 : cn + sh = s := by omega
        rw [hs2] at hstep
        have hs10 : s < 10 * 2 ^ k := by omega
        obtain ⟨q, hq⟩ : ∃ q : Nat, (s : Int) / 10 = (q : Int) := ⟨s / 10, by omega⟩
        obtain ⟨rm, hrm⟩ : ∃ rm : Nat, (s : Int) - 10 * (q : Int) = (rm : Int) := ⟨s % 10, by omega⟩
        have hq2 : s / 10 = q := by omega
        rw [hq2] at hstep
        have Hstep := Lib.hid hstep; have Hs2 := Lib.hid hs2; have Hq2 := Lib.hid hq2; clear hstep hs2 hq2
        have hrm9 : rm ≤ 9 := by omega
        by_cases hw8 : wi < 800
        · have cW := hDr.dig wi hw8
          go_wp2_with fail
          all_goals
            have D2 : Dec (wr.setCell ⟨B, wi, none⟩ (.int .u8 ((rm : Int) + 48))) B (upd y wi (rm + 48)) (n + 1) dp ng tr' := hDr.setD hw8 (rm + 48)
            refine ⟨⟨j + 1, upd y wi (rm + 48), tr', by omega, congrArg (Value.int .i64) (by omega), congrArg (Value.int .i64) (by omega), congrArg (Value.int .u64) (by rw [Hstep.out]), D2, hKr.set1 _ _, fun i hi => by rw [upd_ne _ _ (by omega)]; exact hy i (by omega), fun i h2 h3 h4 => ?_, fun h2 h3 => ?_⟩, by simp [intOf]; omega⟩
            · by_cases e : i = wi
              · subst e; rw [upd_at]; omega
              · rw [upd_ne _ _ e]; exact hw i (by omega) h3 h4
            · have e0 : wi = 0 := by omega
              have e1 : rr = 0 := by omega
              have e2 : q = 0 := by
                rw [Hstep.out, h3, Nat.mod_eq_of_lt HDlt.out]
                have := Hhi.out
                rw [h2, Nat.add_zero] at this
                exact Nat.div_eq_of_lt this
              rw [e0, upd_at, ← e1, ← Hsh2.out]
              omega
        · have cT := hDr.t
          go_wp2_with fail
          all_goals
            refine ⟨⟨j + 1, y, _, by omega, congrArg (Value.int .i64) (by omega), congrArg (Value.int .i64) (by omega), congrArg (Value.int .u64) (by rw [Hstep.out]), (by first | exact hDr.setT true | exact hDr), (by first | exact hKr.set1 _ _ | exact hKr), fun i hi => hy i (by omega), fun i h2 h3 h4 => hw i (by omega) h3 h4, fun h2 h3 => by omega⟩, by simp [intOf]; omega⟩
      · obtain rfl : j = n + 1 := by omega
        rw [Nat.mod_eq_of_lt HDlt.out] at hclt ⊢
        have hhi := Hhi.out
        have hlo := Hlo.out
        clear hstep hy
        generalize num x (n + 1) * 2 ^ k = NN at hhi hlo hclt ⊢
        have hz := hz
        have HZ := Lib.hid (fun h => hz h rfl); clear hz
        have HH := Lib.hid hhi; have HL := Lib.hid hlo; clear hhi hlo
        go_wp2_with fail
        go_loopw [6, 7] (fun vw vn wr => ∃ (t : Nat) (y : Nat → Nat) (tr' : Bool), t ≤ a ∧ vw = .int .i64 ((a : Int) - t) ∧ vn = .int .u64 ((NN / 10 ^ (n + 1 + t) : Nat) : Int) ∧ Dec wr B y (n + 1) dp ng tr' ∧ Kept [B] w wr ∧ (∀ i, a - t ≤ i → i < n + 1 + a → i < 800 → 48 ≤ y i ∧ y i ≤ 57) ∧ (a = 0 → 48 + (x 0 - 48) * 2 ^ k ≤ y 0) ∧ (1 ≤ a → t = a → y 0 ≠ 48)) (fun vw _ _ => (intOf vw).toNat)
        case atStart => exact ⟨0, y, tr', by omega, congrArg (Value.int .i64) (by omega), rfl, hDr, hKr, fun i h2 h3 h4 => hw i (by omega) h3 h4, HZ.out, fun h2 h3 => by omega⟩
        case round =>
          clear hDr hKr hw HZ hf
          obtain ⟨t, y, tr', hta, rfl, rfl, hDr, hKr, hw, hz, hz1⟩ := hrel
          have hf := hDr.free
          have hstep : NN / 10 ^ (n + 1 + t) / 10 = NN / 10 ^ (n + 1 + (t + 1)) := by
            rw [Nat.div_div_eq_div_mul, ← Nat.pow_succ]; rfl
          have hzero : t = a → NN / 10 ^ (n + 1 + t) = 0 := fun h => by subst h; exact Nat.div_eq_of_lt HH.out
          have hzero1 : t + 1 = a → NN / 10 ^ (n + 1 + t) / 10 = 0 := fun h => by rw [hstep, h]; exact Nat.div_eq_of_lt HH.out
          have hfull : NN / 10 ^ (n + 1 + t) = 0 → t = a := fun h => by
            have h2 : NN < 10 ^ (n + 1 + t) := by
              rcases Nat.lt_or_ge NN (10 ^ (n + 1 + t)) with h3 | h3
              · exact h3
              · have := (Nat.one_le_div_iff (p10 _)).2 h3; omega
            have h3 := (Nat.pow_lt_pow_iff_right (show 1 < 10 by decide)).1 (Nat.lt_of_le_of_lt HL.out h2)
            omega
          have hsmall : NN / 10 ^ (n + 1 + t) < 18446744073709551616 := by
            refine Nat.lt_of_le_of_lt (Nat.div_le_div_left ?_ (p10 (n + 1))) (show NN / 10 ^ (n + 1) < _ by omega)
            exact Nat.pow_le_pow_right (by decide) (by omega)
          generalize NN / 10 ^ (n + 1 + t) = s at hstep hzero hzero1 hfull hsmall ⊢
          by_cases hs0 : 0 < s
          · have htl : t < a := by
              rcases Nat.lt_or_ge t a with h | h
              · exact h
              · have := hzero (by omega); omega
            obtain ⟨wi, hwi⟩ : ∃ wi : Nat, (a : Int) - (t : Int) - 1 = (wi : Int) := ⟨a - t - 1, by omega⟩
            obtain ⟨q, hq⟩ : ∃ q : Nat, (s : Int) / 10 = (q : Int) := ⟨s / 10, by omega⟩
            obtain ⟨rm, hrm⟩ : ∃ rm : Nat, (s : Int) - 10 * (q : Int) = (rm : Int) := ⟨s % 10, by omega⟩
            have hq2 : s / 10 = q := by omega
            have hrm9 : rm ≤ 9 := by omega
            have hrm1 : t + 1 = a → 1 ≤ rm := fun h => by have := hzero1 h; omega
            rw [hq2] at hstep
            have Hstep := Lib.hid hstep; have Hq2 := Lib.hid hq2; have Hz1 := Lib.hid hrm1; clear hstep hq2 hzero hzero1 hfull hrm1
            have cW := hDr.dig wi (by omega)
            go_wp2_with fail
            have D2 : Dec (wr.setCell ⟨B, wi, none⟩ (.int .u8 ((rm : Int) + 48))) B (upd y wi (rm + 48)) (n + 1) dp ng tr' := hDr.setD (by omega) (rm + 48)
            refine ⟨⟨t + 1, upd y wi (rm + 48), tr', by omega, congrArg (Value.int .i64) (by omega), congrArg (Value.int .u64) (by rw [Hstep.out]), D2, hKr.set1 _ _, fun i h2 h3 h4 => ?_, fun h2 => by omega, fun h2 h3 => ?_⟩, by simp [intOf]; omega⟩
            · by_cases e : i = wi
              · subst e; rw [upd_at]; omega
              · rw [upd_ne _ _ e]; exact hw i (by omega) h3 h4
            · have e0 : wi = 0 := by omega
              have := Hz1.out h3
              rw [e0, upd_at]; omega
          · obtain rfl : s = 0 := by omega
            obtain rfl : t = a := hfull rfl
            clear hstep hzero hzero1 hfull
            have hzz : y 0 ≠ 48 := by
              rcases Nat.eq_zero_or_pos t with h | h
              · have h2 := hz h
                have h3 := hd 0 (by omega)
                have h4 : 1 ≤ (x 0 - 48) * 2 ^ k := Nat.mul_pos (by omega) hP0
                omega
              · exact hz1 h rfl
            have cN := hDr.n
            have cP := hDr.p
            have hoff := cell_set_off
            have hc8 : (wr.setCell ⟨B, 800, none⟩ (.int .i64 ((n : Int) + 1 + t))).cell? ⟨B, 800, none⟩ = some (.int .i64 ((n : Int) + 1 + t)) := hDr.set_at 800 _ (by omega)
            have Hz := Lib.hid hz; have Hzz := Lib.hid hzz; clear hz hz1 hzz
            by_cases h800 : n + 1 + t < 800
            · go_wp2_with fail
              have D2 := (hDr.setN (n + 1 + t)).setP (dp + (t : Nat))
              have K2 := (hKr.set1 800 (.int .i64 ((n + 1 + t : Nat) : Int))).set1 801 (.int .i64 (dp + (t : Nat)))
              refine (dtrim B y (n + 1 + t) (dp + (t : Nat)) ng tr' _ D2 (by omega)).mono ?_
              rintro en w' ⟨rfl, hKt, nd', dp', hDt, hnd', hge, hdp', _⟩
              have hge1 := hge (by omega) Hzz.out
              have hdpe := hdp' hge1
              subst hdpe
              go_wp2_with fail
              go_end0
              exact ⟨rfl, Kept.trans K2 hKt (fun _ h => h) (fun _ h _ => h), y, nd', t, tr', hDt, fun i hi => hw i (by omega) (by omega) (by omega), hge1, by omega, Hzz.out, ha19, Hz.out⟩
            · go_wp2_with fail
              have D1 := hDr.setN (n + 1 + t)
              have D2 := (D1.setN 800).setP (dp + (t : Nat))
              have K2 := ((hKr.set1 800 (.int .i64 ((n + 1 + t : Nat) : Int))).set1 800 (.int .i64 ((800 : Nat) : Int))).set1 801 (.int .i64 (dp + (t : Nat)))
              refine (dtrim B y 800 (dp + (t : Nat)) ng tr' _ D2 (by omega)).mono ?_
              rintro en w' ⟨rfl, hKt, nd', dp', hDt, hnd', hge, hdp', _⟩
              have hge1 := hge (by omega) Hzz.out
              have hdpe := hdp' hge1
              subst hdpe
              go_wp2_with fail
              go_end0
              exact ⟨rfl, Kept.trans K2 hKt (fun _ h => h) (fun _ h _ => h), y, nd', t, tr', hDt, fun i hi => hw i (by omega) (by omega) (by omega), hge1, by omega, Hzz.out, ha19, Hz.out⟩
end Go.Proofs.YtfkecmlmnhbmoaaGreatDoor
