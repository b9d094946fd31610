import Derived.Test.YtfkecmlmnhbmoaaGreatDoorFk37
import Derived.Test.YtfkecmlmnhbmoaaGreatDoorFk16
namespace Go.Proofs.YtfkecmlmnhbmoaaGreatDoor
open Go.RowKit
theorem Dec.digx {w : World} {B : Nat} {x : Nat → Nat} {nd : Nat} {dp : Int} {ng tr : Bool} (h : Dec w B x nd dp ng tr) (hd : Dg x nd) (h8 : nd ≤ 800) : DigX w B x nd := by
  obtain ⟨cs, hc, hs⟩ := h.blk
  exact ⟨⟨cs, 248, hc, by decide⟩, fun i hi => ⟨(hd i hi).1, (hd i hi).2, h.dig i (by omega)⟩⟩
theorem dgx_dig (d nd : Nat) (k : Nat) : ∀ i, i < k → 48 ≤ dgx d nd i ∧ dgx d nd i ≤ 57 := fun i _ => dg_digit d (nd - 1 - i)
set_option maxRecDepth 100000 in
set_option maxHeartbeats 8000000 in
theorem ftoaF (b : Nat) (N : Nat) (W0 : World) (ht0 : Tabs N W0) (hN : N ≤ W0.heap.size) (hb : b < 18446744073709551616) (hE : b / 4503599627370496 % 2048 ≤ 1069) : ∃ (bs : List Int) (L : Nat) (neg : Bool), (FracP neg L 12 bs ∧ 1 ≤ L ∧ L ≤ 37) ∧
    ∀ (v0 : Value) (a0 w : World), Kept [] W0 w → W0.heap.size ≤ a0.heap.size → Own a0 w v0 [] → Calls Tryz.prog 118 #[v0, .float .f64 b, .int .u8 102, .int .i64 12] w fun en w' => ∃ v, en = .returned v ∧ Own a0 w' v bs := by
  obtain ⟨E, hE0⟩ : ∃ E, E = b / 4503599627370496 % 2048 := ⟨_, rfl⟩
  obtain ⟨m, hm0⟩ : ∃ m, m = b % 4503599627370496 := ⟨_, rfl⟩
  have fE : bits .and .i64 ((b : Int) / 4503599627370496) 2047 = (E : Int) := by
    have := bits_mask .i64 63 (by decide) (fun n h0 h1 => by rw [IntKind.wrap_i64]; omega) 11 (by decide) ((b : Int) / 4503599627370496) (by omega) (by omega)
    rw [show (2 : Int) ^ 11 - 1 = 2047 by decide] at this
    rw [this, hE0]; omega
  have fM : bits .and .u64 (b : Int) 4503599627370495 = (m : Int) := by
    have := bits_mask .u64 64 (by decide) (fun n h0 h1 => by rw [IntKind.wrap_u64]; omega) 52 (by decide) (b : Int) (by omega) (by omega)
    rw [show (2 : Int) ^ 52 - 1 = 4503599627370495 by decide] at this
    rw [this, hm0]; omega
  have hm : m < 4503599627370496 := by omega
  have fO : bits .or .u64 (m : Int) 4503599627370496 = ((m + 4503599627370496 : Nat) : Int) := by
    have := u64_or_nat m 4503599627370496 (by omega) (by decide)
    rw [Nat.or_comm, nat_join 52 4503599627370496 m (by decide) (by omega)] at this
    rw [show ((4503599627370496 : Nat) : Int) = 4503599627370496 from rfl] at this
    rw [this]; omega
  rw [← hE0] at hE
  clear hE0 hm0
  have z1 : ((E : Int) == 2047) = false := beq_eq_false_iff_ne.2 (by omega)
  obtain ⟨neg, hneg⟩ : ∃ neg : Bool, ((b : Int) / 9223372036854775808 != 0) = neg := ⟨_, rfl⟩
  by_cases hE0 : E = 0
  · subst hE0
    refine ⟨efgC neg (fun _ => 0) 0 0, 1, neg, ⟨efgC_frac neg _ 0 0 (fun i hi => by omega), by omega, by omega⟩, ?_⟩
    by_cases hmz : m = 0
    · subst hmz
      intro v0 a0 w hkw ha0 hown
      have ht := hkw.tabs ht0 hN
      have cO := ht.opt
      have hcb := c147
      go_enter Tryz.func118, Tryz.ntmps118
      go_wp2_with fail
      go_quiet (fail)
      have hown := hown.drewN nq
      have hkw := hkw.drewN nq
      clear cO ht
      generalize w.drewN nq = w1 at hown hkw ⊢
      have ht := hkw.tabs ht0 hN
      have cO := ht.opt
      go_wp2_with fail
      refine (efg_nonF neg (fun _ => 0) 0 0 (by omega) (by omega) (by omega) v0 _ a0 _ hown (.inl rfl)).mono ?_
      rintro en w' ⟨v, rfl, ho⟩
      go_wp2_with fail
      go_ret
      exact ⟨v, rfl, ho⟩
    · have z2 : ((m : Int) == 0) = false := beq_eq_false_iff_ne.2 (by omega)
      intro v0 a0 w hkw ha0 hown
      have ht := hkw.tabs ht0 hN
      have cO := ht.opt
      have hcb := c147
      go_enter Tryz.func118, Tryz.ntmps118
      go_wp2_with fail
      go_quiet (fail)
      have hown := hown.drewN nq
      have hkw := hkw.drewN nq
      clear cO ht
      generalize w.drewN nq = w1 at hown hkw ⊢
      have ht := hkw.tabs ht0 hN
      have cO := ht.opt
      go_wp2_with fail
      refine (log10 _ _ (by omega) (by omega)).mono ?_
      rintro e w' ⟨rfl, rfl⟩
      go_wp2_with fail
      refine (efg_nonF neg (fun _ => 0) 0 0 (by omega) (by omega) (by omega) v0 _ a0 _ (hown.alloc _) (.inl rfl)).mono ?_
      rintro en w' ⟨v, rfl, ho⟩
      go_wp2_with fail
      go_ret
      exact ⟨v, rfl, ho⟩
  · have z3 : ((E : Int) == 0) = false := beq_eq_false_iff_ne.2 (by omega)
    have hE1 : 1 ≤ E := by omega
    obtain ⟨mm, hmm⟩ : ∃ mm, mm = m + 4503599627370496 := ⟨_, rfl⟩
    rw [← hmm] at fO
    have hmm1 : 4503599627370496 ≤ mm := by omega
    have hmm2 : mm < 9007199254740992 := by omega
    have z4 : ((mm : Int) == 0) = false := beq_eq_false_iff_ne.2 (by omega)
    have hl53 : bitLen mm = 53 := by
      unfold bitLen
      rw [if_neg (by omega)]
      have := (Nat.log2_eq_iff (show mm ≠ 0 by omega) (k := 52)).2 ⟨by omega, by omega⟩
      omega
    clear hmm
    by_cases hexp : E < 1023
    · by_cases hdig : (-((E : Int) + -1023)) * 78913 / 262144 < 13
      · skip
        obtain ⟨d, p, ⟨hd, hp1, hp2⟩, hFX⟩ := fixedwF ((mm : Int) * 2048) ((E : Int) + -1023 - 11 - 52) ((13 - -((E : Int) + -1023) * 78913 / 262144)) W0 N ht0 hN ⟨by omega, by omega⟩ (by omega) (by omega) (by omega) (by omega)
        obtain ⟨dn, rfl, hdn⟩ := U_nat hd
        have HFX := Lib.hid hFX; clear hFX
        by_cases hd0 : dn = 0
        · subst hd0
          refine ⟨efgC neg (fun _ => 0) 0 0, 1, neg, ⟨efgC_frac neg _ 0 0 (fun i hi => by omega), by omega, by omega⟩, ?_⟩
          intro v0 a0 w hkw ha0 hown
          have ht := hkw.tabs ht0 hN
          have cO := ht.opt
          have hcb := c147
          go_enter Tryz.func118, Tryz.ntmps118
          go_wp2_with fail
          go_quiet (fail)
          have hown := hown.drewN nq
          have hkw := hkw.drewN nq
          clear cO ht
          generalize w.drewN nq = w1 at hown hkw ⊢
          have ht := hkw.tabs ht0 hN
          have cO := ht.opt
          go_wp2_with fail
          refine (log10 _ _ (by omega) (by omega)).mono ?_
          rintro e w' ⟨rfl, rfl⟩
          go_wp2_with fail
          refine (len64 _ _ ⟨by omega, by omega⟩).mono ?_
          rintro e w' ⟨rfl, rfl⟩
          rw [Int.toNat_natCast, hl53]
          have hown2 := hown.alloc (.cells Lib.zeros24 156)
          have hkw2 := hkw.alloc (.cells Lib.zeros24 156)
          go_wp2_with fail
          refine (HFX.out _ hkw2).mono ?_
          rintro en w2 ⟨rfl, hk2⟩
          have ho2 := hown2.ext hk2
          go_wp2_with fail
          refine (efg_nonF neg (fun _ => 0) 0 0 (by omega) (by omega) (by omega) v0 _ a0 _ ho2 (.inl rfl)).mono ?_
          rintro en w' ⟨v, rfl, ho⟩
          go_wp2_with fail
          go_ret
          exact ⟨v, rfl, ho⟩
        · have hndl := Lib.nDigits_pos dn
          have hndh := Lib.nDigits_le20 dn hdn
          obtain ⟨k, hk, hSD⟩ := setdigitsF dn (Lib.nDigits dn) p hndl hndh (Lib.lt_pow_nDigits dn) hdn (by omega) (by omega)
          have HSD := Lib.hid hSD; clear hSD
          by_cases hdp : 0 < ((Lib.nDigits dn : Nat) : Int) + p
          · refine ⟨efgB neg (dgx dn (Lib.nDigits dn)) k ((Lib.nDigits dn : Nat) + p), (((Lib.nDigits dn : Nat) : Int) + p).toNat, neg, ⟨efgB_frac neg _ k _ hdp (dgx_dig _ _ _), by omega, by omega⟩, ?_⟩
            intro v0 a0 w hkw ha0 hown
            have ht := hkw.tabs ht0 hN
            have cO := ht.opt
            have hcb := c147
            go_enter Tryz.func118, Tryz.ntmps118
            go_wp2_with fail
            go_quiet (fail)
            have hown := hown.drewN nq
            have hkw := hkw.drewN nq
            clear cO ht
            generalize w.drewN nq = w1 at hown hkw ⊢
            have ht := hkw.tabs ht0 hN
            have cO := ht.opt
            go_wp2_with fail
            refine (log10 _ _ (by omega) (by omega)).mono ?_
            rintro e w' ⟨rfl, rfl⟩
            go_wp2_with fail
            refine (len64 _ _ ⟨by omega, by omega⟩).mono ?_
            rintro e w' ⟨rfl, rfl⟩
            rw [Int.toNat_natCast, hl53]
            have hown2 := hown.alloc (.cells Lib.zeros24 156)
            have hkw2 := hkw.alloc (.cells Lib.zeros24 156)
            go_wp2_with fail
            refine (HFX.out _ hkw2).mono ?_
            rintro en w2 ⟨rfl, hk2⟩
            have ho2 := hown2.ext hk2
            have z5 : ((dn : Int) != 0) = true := by simpa using hd0
            have hB2 : w2.heap[w1.heap.size]? = some (.cells Lib.zeros24 156 (0, 0)) := (hk2.block _ (by simp) (by simp)).trans (heap_at rfl)
            have ht3 := (Kept.trans hkw2 hk2 (Z := []) (by simp) (by simp)).tabs ht0 hN
            have hN2 : N ≤ w2.heap.size := Nat.le_trans (Nat.le_trans hN hkw2.size) hk2.size
            have HT : ∀ W : World, (∃ k, W = w2.drewN k) → Tabs N W := fun W ⟨k, h⟩ => by
              subst h; exact ht3.kept ((Kept.refl [] w2).drewN k) hN2 (by simp)
            have HS : ∀ (W : World), (∃ k, W = w2.drewN k) → Calls Tryz.prog 152 #[.slice (some ⟨w1.heap.size, 0, none⟩) 24 24, .int .u64 dn, .int .i64 p, .int .i64 (Lib.nDigits dn)] W fun en w' =>
                (en = .returned (.tuple #[.int .i64 (Lib.nDigits dn + p), .int .i64 k]) ∧ DigX w' w1.heap.size (dgx dn (Lib.nDigits dn)) k) ∧ Kept [w1.heap.size] W w' := fun W ⟨q, h⟩ => by
              subst h
              have hB3 : (w2.drewN q).heap[w1.heap.size]? = some (.cells Lib.zeros24 156 (0, 0)) := by rw [Tryz.drewN_heap]; exact hB2
              exact HSD.out _ _ _ (holds24 hB3 (by omega)) hB3
            have HHT := Lib.hid HT; have HHS := Lib.hid HS; clear HT HS
            obtain ⟨nd, hnd⟩ : ∃ nd, nd = Lib.nDigits dn := ⟨_, rfl⟩
            rw [← hnd] at HHS hndl hndh hk hdp
            have HND := Lib.hid hnd; clear hnd
            go_wp2_with fail
            go_region_with (first
              | (go_at_call 91; refine (numdigF dn _ N (HHT.out _ ⟨_, rfl⟩) (by omega) hdn).mono ?_; rintro e w' ⟨rfl, rfl⟩; rw [← HND.out])
              | (go_at_call 152; refine (HHS.out _ ⟨_, rfl⟩).mono ?_; rintro e w3 ⟨⟨rfl, hdg⟩, hk3⟩))
            have hk4 : Kept [w1.heap.size] w2 w3 := Kept.trans (X := [w1.heap.size]) (by first | exact (Kept.refl _ _) | exact (Kept.refl _ _).drew | exact (Kept.refl _ _).drew.drew) hk3 (fun _ h => h) (fun _ h _ => h)
            have ho3 := ho2.off hk4 hB2 (by decide) (hown.kept.size)
            clear hk3 hk4 ho2 hown2 hk2 hB2 ht3
            go_wp2_with fail
            refine (efg_posF neg (dgx dn nd) 24 ((nd : Int) + p) k hdp (by omega) (by omega) (by omega) v0 w1.heap.size a0 w3 ho3 hdg).mono ?_
            rintro en w' ⟨v, rfl, ho⟩
            go_wp2_with fail
            go_ret
            rw [HND.out] at ho
            exact ⟨v, rfl, ho⟩
          · refine ⟨efgC neg (dgx dn (Lib.nDigits dn)) k ((Lib.nDigits dn : Nat) + p), 1, neg, ⟨efgC_frac neg _ k _ (dgx_dig _ _ _), by omega, by omega⟩, ?_⟩
            intro v0 a0 w hkw ha0 hown
            have ht := hkw.tabs ht0 hN
            have cO := ht.opt
            have hcb := c147
            go_enter Tryz.func118, Tryz.ntmps118
            go_wp2_with fail
            go_quiet (fail)
            have hown := hown.drewN nq
            have hkw := hkw.drewN nq
            clear cO ht
            generalize w.drewN nq = w1 at hown hkw ⊢
            have ht := hkw.tabs ht0 hN
            have cO := ht.opt
            go_wp2_with fail
            refine (log10 _ _ (by omega) (by omega)).mono ?_
            rintro e w' ⟨rfl, rfl⟩
            go_wp2_with fail
            refine (len64 _ _ ⟨by omega, by omega⟩).mono ?_
            rintro e w' ⟨rfl, rfl⟩
            rw [Int.toNat_natCast, hl53]
            have hown2 := hown.alloc (.cells Lib.zeros24 156)
            have hkw2 := hkw.alloc (.cells Lib.zeros24 156)
            go_wp2_with fail
            refine (HFX.out _ hkw2).mono ?_
            rintro en w2 ⟨rfl, hk2⟩
            have ho2 := hown2.ext hk2
            have z5 : ((dn : Int) != 0) = true := by simpa using hd0
            have hB2 : w2.heap[w1.heap.size]? = some (.cells Lib.zeros24 156 (0, 0)) := (hk2.block _ (by simp) (by simp)).trans (heap_at rfl)
            have ht3 := (Kept.trans hkw2 hk2 (Z := []) (by simp) (by simp)).tabs ht0 hN
            have hN2 : N ≤ w2.heap.size := Nat.le_trans (Nat.le_trans hN hkw2.size) hk2.size
            have HT : ∀ W : World, (∃ k, W = w2.drewN k) → Tabs N W := fun W ⟨k, h⟩ => by
              subst h; exact ht3.kept ((Kept.refl [] w2).drewN k) hN2 (by simp)
            have HS : ∀ (W : World), (∃ k, W = w2.drewN k) → Calls Tryz.prog 152 #[.slice (some ⟨w1.heap.size, 0, none⟩) 24 24, .int .u64 dn, .int .i64 p, .int .i64 (Lib.nDigits dn)] W fun en w' =>
                (en = .returned (.tuple #[.int .i64 (Lib.nDigits dn + p), .int .i64 k]) ∧ DigX w' w1.heap.size (dgx dn (Lib.nDigits dn)) k) ∧ Kept [w1.heap.size] W w' := fun W ⟨q, h⟩ => by
              subst h
              have hB3 : (w2.drewN q).heap[w1.heap.size]? = some (.cells Lib.zeros24 156 (0, 0)) := by rw [Tryz.drewN_heap]; exact hB2
              exact HSD.out _ _ _ (holds24 hB3 (by omega)) hB3
            have HHT := Lib.hid HT; have HHS := Lib.hid HS; clear HT HS
            obtain ⟨nd, hnd⟩ : ∃ nd, nd = Lib.nDigits dn := ⟨_, rfl⟩
            rw [← hnd] at HHS hndl hndh hk hdp
            have HND := Lib.hid hnd; clear hnd
            go_wp2_with fail
            go_region_with (first
              | (go_at_call 91; refine (numdigF dn _ N (HHT.out _ ⟨_, rfl⟩) (by omega) hdn).mono ?_; rintro e w' ⟨rfl, rfl⟩; rw [← HND.out])
              | (go_at_call 152; refine (HHS.out _ ⟨_, rfl⟩).mono ?_; rintro e w3 ⟨⟨rfl, hdg⟩, hk3⟩))
            have hk4 : Kept [w1.heap.size] w2 w3 := Kept.trans (X := [w1.heap.size]) (by first | exact (Kept.refl _ _) | exact (Kept.refl _ _).drew | exact (Kept.refl _ _).drew.drew) hk3 (fun _ h => h) (fun _ h _ => h)
            have ho3 := ho2.off hk4 hB2 (by decide) (hown.kept.size)
            clear hk3 hk4 ho2 hown2 hk2 hB2 ht3
            go_wp2_with fail
            refine (efg_nonF neg (dgx dn nd) ((nd : Int) + p) k (by omega) (by omega) (by omega) v0 _ a0 w3 ho3 (.inr ⟨w1.heap.size, 24, rfl, by omega, by omega, hdg⟩)).mono ?_
            rintro en w' ⟨v, rfl, ho⟩
            go_wp2_with fail
            go_ret
            rw [HND.out] at ho
            exact ⟨v, rfl, ho⟩
      · refine ⟨efgC neg (fun _ => 0) 0 0, 1, neg, ⟨efgC_frac neg _ 0 0 (fun i hi => by omega), by omega, by omega⟩, ?_⟩
        intro v0 a0 w hkw ha0 hown
        have ht := hkw.tabs ht0 hN
        have cO := ht.opt
        have hcb := c147
        go_enter Tryz.func118, Tryz.ntmps118
        go_wp2_with fail
        go_quiet (fail)
        have hown := hown.drewN nq
        have hkw := hkw.drewN nq
        clear cO ht
        generalize w.drewN nq = w1 at hown hkw ⊢
        have ht := hkw.tabs ht0 hN
        have cO := ht.opt
        go_wp2_with fail
        refine (log10 _ _ (by omega) (by omega)).mono ?_
        rintro e w' ⟨rfl, rfl⟩
        go_wp2_with fail
        refine (efg_nonF neg (fun _ => 0) 0 0 (by omega) (by omega) (by omega) v0 _ a0 _ (hown.alloc _) (.inl rfl)).mono ?_
        rintro en w' ⟨v, rfl, ho⟩
        go_wp2_with fail
        go_ret
        exact ⟨v, rfl, ho⟩
    · by_cases hdig : (1 + ((E : Int) + -1023)) * 78913 / 262144 ≤ 5
      · skip
        obtain ⟨d, p, ⟨hd, hp1, hp2⟩, hFX⟩ := fixedwF ((mm : Int) * 2048) ((E : Int) + -1023 - 11 - 52) ((1 + (1 + ((E : Int) + -1023)) * 78913 / 262144 + 12)) W0 N ht0 hN ⟨by omega, by omega⟩ (by omega) (by omega) (by omega) (by omega)
        obtain ⟨dn, rfl, hdn⟩ := U_nat hd
        have HFX := Lib.hid hFX; clear hFX
        by_cases hd0 : dn = 0
        · subst hd0
          refine ⟨efgC neg (fun _ => 0) 0 0, 1, neg, ⟨efgC_frac neg _ 0 0 (fun i hi => by omega), by omega, by omega⟩, ?_⟩
          intro v0 a0 w hkw ha0 hown
          have ht := hkw.tabs ht0 hN
          have cO := ht.opt
          have hcb := c147
          go_enter Tryz.func118, Tryz.ntmps118
          go_wp2_with fail
          go_quiet (fail)
          have hown := hown.drewN nq
          have hkw := hkw.drewN nq
          clear cO ht
          generalize w.drewN nq = w1 at hown hkw ⊢
          have ht := hkw.tabs ht0 hN
          have cO := ht.opt
          go_wp2_with fail
          refine (log10 _ _ (by omega) (by omega)).mono ?_
          rintro e w' ⟨rfl, rfl⟩
          go_wp2_with fail
          refine (len64 _ _ ⟨by omega, by omega⟩).mono ?_
          rintro e w' ⟨rfl, rfl⟩
          rw [Int.toNat_natCast, hl53]
          have hown2 := hown.alloc (.cells Lib.zeros24 156)
          have hkw2 := hkw.alloc (.cells Lib.zeros24 156)
          go_wp2_with fail
          refine (HFX.out _ hkw2).mono ?_
          rintro en w2 ⟨rfl, hk2⟩
          have ho2 := hown2.ext hk2
          go_wp2_with fail
          refine (efg_nonF neg (fun _ => 0) 0 0 (by omega) (by omega) (by omega) v0 _ a0 _ ho2 (.inl rfl)).mono ?_
          rintro en w' ⟨v, rfl, ho⟩
          go_wp2_with fail
          go_ret
          exact ⟨v, rfl, ho⟩
        · have hndl := Lib.nDigits_pos dn
          have hndh := Lib.nDigits_le20 dn hdn
          obtain ⟨k, hk, hSD⟩ := setdigitsF dn (Lib.nDigits dn) p hndl hndh (Lib.lt_pow_nDigits dn) hdn (by omega) (by omega)
          have HSD := Lib.hid hSD; clear hSD
          by_cases hdp : 0 < ((Lib.nDigits dn : Nat) : Int) + p
          · refine ⟨efgB neg (dgx dn (Lib.nDigits dn)) k ((Lib.nDigits dn : Nat) + p), (((Lib.nDigits dn : Nat) : Int) + p).toNat, neg, ⟨efgB_frac neg _ k _ hdp (dgx_dig _ _ _), by omega, by omega⟩, ?_⟩
            intro v0 a0 w hkw ha0 hown
            have ht := hkw.tabs ht0 hN
            have cO := ht.opt
            have hcb := c147
            go_enter Tryz.func118, Tryz.ntmps118
            go_wp2_with fail
            go_quiet (fail)
            have hown := hown.drewN nq
            have hkw := hkw.drewN nq
            clear cO ht
            generalize w.drewN nq = w1 at hown hkw ⊢
            have ht := hkw.tabs ht0 hN
            have cO := ht.opt
            go_wp2_with fail
            refine (log10 _ _ (by omega) (by omega)).mono ?_
            rintro e w' ⟨rfl, rfl⟩
            go_wp2_with fail
            refine (len64 _ _ ⟨by omega, by omega⟩).mono ?_
            rintro e w' ⟨rfl, rfl⟩
            rw [Int.toNat_natCast, hl53]
            have hown2 := hown.alloc (.cells Lib.zeros24 156)
            have hkw2 := hkw.alloc (.cells Lib.zeros24 156)
            go_wp2_with fail
            refine (HFX.out _ hkw2).mono ?_
            rintro en w2 ⟨rfl, hk2⟩
            have ho2 := hown2.ext hk2
            have z5 : ((dn : Int) != 0) = true := by simpa using hd0
            have hB2 : w2.heap[w1.heap.size]? = some (.cells Lib.zeros24 156 (0, 0)) := (hk2.block _ (by simp) (by simp)).trans (heap_at rfl)
            have ht3 := (Kept.trans hkw2 hk2 (Z := []) (by simp) (by simp)).tabs ht0 hN
            have hN2 : N ≤ w2.heap.size := Nat.le_trans (Nat.le_trans hN hkw2.size) hk2.size
            have HT : ∀ W : World, (∃ k, W = w2.drewN k) → Tabs N W := fun W ⟨k, h⟩ => by
              subst h; exact ht3.kept ((Kept.refl [] w2).drewN k) hN2 (by simp)
            have HS : ∀ (W : World), (∃ k, W = w2.drewN k) → Calls Tryz.prog 152 #[.slice (some ⟨w1.heap.size, 0, none⟩) 24 24, .int .u64 dn, .int .i64 p, .int .i64 (Lib.nDigits dn)] W fun en w' =>
                (en = .returned (.tuple #[.int .i64 (Lib.nDigits dn + p), .int .i64 k]) ∧ DigX w' w1.heap.size (dgx dn (Lib.nDigits dn)) k) ∧ Kept [w1.heap.size] W w' := fun W ⟨q, h⟩ => by
              subst h
              have hB3 : (w2.drewN q).heap[w1.heap.size]? = some (.cells Lib.zeros24 156 (0, 0)) := by rw [Tryz.drewN_heap]; exact hB2
              exact HSD.out _ _ _ (holds24 hB3 (by omega)) hB3
            have HHT := Lib.hid HT; have HHS := Lib.hid HS; clear HT HS
            obtain ⟨nd, hnd⟩ : ∃ nd, nd = Lib.nDigits dn := ⟨_, rfl⟩
            rw [← hnd] at HHS hndl hndh hk hdp
            have HND := Lib.hid hnd; clear hnd
            go_wp2_with fail
            go_region_with (first
              | (go_at_call 91; refine (numdigF dn _ N (HHT.out _ ⟨_, rfl⟩) (by omega) hdn).mono ?_; rintro e w' ⟨rfl, rfl⟩; rw [← HND.out])
              | (go_at_call 152; refine (HHS.out _ ⟨_, rfl⟩).mono ?_; rintro e w3 ⟨⟨rfl, hdg⟩, hk3⟩))
            have hk4 : Kept [w1.heap.size] w2 w3 := Kept.trans (X := [w1.heap.size]) (by first | exact (Kept.refl _ _) | exact (Kept.refl _ _).drew | exact (Kept.refl _ _).drew.drew) hk3 (fun _ h => h) (fun _ h _ => h)
            have ho3 := ho2.off hk4 hB2 (by decide) (hown.kept.size)
            clear hk3 hk4 ho2 hown2 hk2 hB2 ht3
            go_wp2_with fail
            refine (efg_posF neg (dgx dn nd) 24 ((nd : Int) + p) k hdp (by omega) (by omega) (by omega) v0 w1.heap.size a0 w3 ho3 hdg).mono ?_
            rintro en w' ⟨v, rfl, ho⟩
            go_wp2_with fail
            go_ret
            rw [HND.out] at ho
            exact ⟨v, rfl, ho⟩
          · refine ⟨efgC neg (dgx dn (Lib.nDigits dn)) k ((Lib.nDigits dn : Nat) + p), 1, neg, ⟨efgC_frac neg _ k _ (dgx_dig _ _ _), by omega, by omega⟩, ?_⟩
            intro v0 a0 w hkw ha0 hown
            have ht := hkw.tabs ht0 hN
            have cO := ht.opt
            have hcb := c147
            go_enter Tryz.func118, Tryz.ntmps118
            go_wp2_with fail
            go_quiet (fail)
            have hown := hown.drewN nq
            have hkw := hkw.drewN nq
            clear cO ht
            generalize w.drewN nq = w1 at hown hkw ⊢
            have ht := hkw.tabs ht0 hN
            have cO := ht.opt
            go_wp2_with fail
            refine (log10 _ _ (by omega) (by omega)).mono ?_
            rintro e w' ⟨rfl, rfl⟩
            go_wp2_with fail
            refine (len64 _ _ ⟨by omega, by omega⟩).mono ?_
            rintro e w' ⟨rfl, rfl⟩
            rw [Int.toNat_natCast, hl53]
            have hown2 := hown.alloc (.cells Lib.zeros24 156)
            have hkw2 := hkw.alloc (.cells Lib.zeros24 156)
            go_wp2_with fail
            refine (HFX.out _ hkw2).mono ?_
            rintro en w2 ⟨rfl, hk2⟩
            have ho2 := hown2.ext hk2
            have z5 : ((dn : Int) != 0) = true := by simpa using hd0
            have hB2 : w2.heap[w1.heap.size]? = some (.cells Lib.zeros24 156 (0, 0)) := (hk2.block _ (by simp) (by simp)).trans (heap_at rfl)
            have ht3 := (Kept.trans hkw2 hk2 (Z := []) (by simp) (by simp)).tabs ht0 hN
            have hN2 : N ≤ w2.heap.size := Nat.le_trans (Nat.le_trans hN hkw2.size) hk2.size
            have HT : ∀ W : World, (∃ k, W = w2.drewN k) → Tabs N W := fun W ⟨k, h⟩ => by
              subst h; exact ht3.kept ((Kept.refl [] w2).drewN k) hN2 (by simp)
            have HS : ∀ (W : World), (∃ k, W = w2.drewN k) → Calls Tryz.prog 152 #[.slice (some ⟨w1.heap.size, 0, none⟩) 24 24, .int .u64 dn, .int .i64 p, .int .i64 (Lib.nDigits dn)] W fun en w' =>
                (en = .returned (.tuple #[.int .i64 (Lib.nDigits dn + p), .int .i64 k]) ∧ DigX w' w1.heap.size (dgx dn (Lib.nDigits dn)) k) ∧ Kept [w1.heap.size] W w' := fun W ⟨q, h⟩ => by
              subst h
              have hB3 : (w2.drewN q).heap[w1.heap.size]? = some (.cells Lib.zeros24 156 (0, 0)) := by rw [Tryz.drewN_heap]; exact hB2
              exact HSD.out _ _ _ (holds24 hB3 (by omega)) hB3
            have HHT := Lib.hid HT; have HHS := Lib.hid HS; clear HT HS
            obtain ⟨nd, hnd⟩ : ∃ nd, nd = Lib.nDigits dn := ⟨_, rfl⟩
            rw [← hnd] at HHS hndl hndh hk hdp
            have HND := Lib.hid hnd; clear hnd
            go_wp2_with fail
            go_region_with (first
              | (go_at_call 91; refine (numdigF dn _ N (HHT.out _ ⟨_, rfl⟩) (by omega) hdn).mono ?_; rintro e w' ⟨rfl, rfl⟩; rw [← HND.out])
              | (go_at_call 152; refine (HHS.out _ ⟨_, rfl⟩).mono ?_; rintro e w3 ⟨⟨rfl, hdg⟩, hk3⟩))
            have hk4 : Kept [w1.heap.size] w2 w3 := Kept.trans (X := [w1.heap.size]) (by first | exact (Kept.refl _ _) | exact (Kept.refl _ _).drew | exact (Kept.refl _ _).drew.drew) hk3 (fun _ h => h) (fun _ h _ => h)
            have ho3 := ho2.off hk4 hB2 (by decide) (hown.kept.size)
            clear hk3 hk4 ho2 hown2 hk2 hB2 ht3
            go_wp2_with fail
            refine (efg_nonF neg (dgx dn nd) ((nd : Int) + p) k (by omega) (by omega) (by omega) v0 _ a0 w3 ho3 (.inr ⟨w1.heap.size, 24, rfl, by omega, by omega, hdg⟩)).mono ?_
            rintro en w' ⟨v, rfl, ho⟩
            go_wp2_with fail
            go_ret
            rw [HND.out] at ho
            exact ⟨v, rfl, ho⟩
      · obtain ⟨k, hk⟩ : ∃ k : Nat, (E : Int) + -1023 - 52 = -(k : Int) := ⟨1075 - E, by omega⟩
        obtain ⟨x3, nd3, dp3, ⟨hd3, n1, n2, x30, p1, p2⟩, hA⟩ := dassignF (fun _ => 0) 0 0 false false mm (by omega) (by omega)
        obtain ⟨x4, nd4, dp4, tr4, ⟨hd4, m1, m2, x40, q1, q2, _⟩, hSH⟩ := dshift_rF x3 nd3 dp3 false false k hd3 n1 (by omega) x30 (by omega) (by omega) (by omega) (by omega)
        obtain ⟨x5, nd5, dp5, ⟨hd5, r1, r2⟩, hRO⟩ := droundF x4 nd4 dp4 false tr4 (dp4 + 12) m2 hd4 (by omega) (by omega)
        have HA := Lib.hid hA; have HSH := Lib.hid hSH; have HRO := Lib.hid hRO; clear hA hSH hRO
        by_cases hdp : 0 < dp5
        · refine ⟨efgB neg x5 nd5 dp5, dp5.toNat, neg, ⟨efgB_frac neg x5 nd5 dp5 hdp hd5, by omega, by omega⟩, ?_⟩
          intro v0 a0 w hkw ha0 hown
          have ht := hkw.tabs ht0 hN
          have cO := ht.opt
          have hcb := c147
          go_enter Tryz.func118, Tryz.ntmps118
          go_wp2_with fail
          go_quiet (fail)
          have hown := hown.drewN nq
          have hkw := hkw.drewN nq
          clear cO ht
          generalize w.drewN nq = w1 at hown hkw ⊢
          have ht := hkw.tabs ht0 hN
          have cO := ht.opt
          go_wp2_with fail
          refine (log10 _ _ (by omega) (by omega)).mono ?_
          rintro e w' ⟨rfl, rfl⟩
          go_wp2_with fail
          have hown2 := hown.alloc (.cells Tryz.zeroCells248 248)
          have hD0 := dec0 (heap_at (w := w1) (o := .cells Tryz.zeroCells248 248) rfl)
          have hC0 := hown.kept.size
          generalize w1.alloc (.cells Tryz.zeroCells248 248) = w2 at hown2 hD0 ⊢
          generalize w1.heap.size = C at hD0 hC0 ⊢
          refine (HA.out _ _ hD0).mono ?_
          rintro en w3 ⟨rfl, hK3, hD3⟩
          go_wp2_with fail
          refine (HSH.out _ _ hD3).mono ?_
          rintro en w4 ⟨rfl, hK4, hD4⟩
          have cP4 := hD4.p
          go_wp2_with fail
          refine (HRO.out _ _ hD4).mono ?_
          rintro en w5 ⟨rfl, hK5, hD5⟩
          have cP5 := hD5.p
          have cN5 := hD5.n
          have hK : Kept [C] w2 w5 := Kept.trans (Kept.trans (Kept.trans hK3 hK4 (fun _ h => h) (fun _ h _ => h)) hK5 (fun _ h => h) (fun _ h _ => h)) (Kept.refl [C] w5) (fun _ h => h) (fun _ h _ => h)
          obtain ⟨cs2, hcs2, _⟩ := hD0.blk
          have ho5 := hown2.off hK hcs2 (by decide) hC0
          have hdg5 := hD5.digx hd5 (by omega)
          have HE : ∀ W : World, (∃ k, W = w5.drewN k) → Calls Tryz.prog 150 #[v0, .bool neg, .slice (some ⟨C, 0, none⟩) 800 800, .int .i64 dp5, .int .i64 nd5, .int .i64 12, .int .u8 102, .bool false] W fun en w' =>
              ∃ v, en = .returned v ∧ Own a0 w' v (efgB neg x5 nd5 dp5) := fun W ⟨k, h⟩ => by
            subst h
            exact efg_posF neg x5 800 dp5 nd5 hdp (by omega) (by omega) (by omega) v0 C a0 _ (ho5.drewN k) (hdg5.same (by rw [Tryz.drewN_heap]))
          have HHE := Lib.hid HE; clear HE hD0 hD3 hD4 hown2
          go_wp2_with fail
          go_region_with (go_at_call 150; refine (HHE.out _ ⟨_, rfl⟩).mono ?_; rintro en w' ⟨v, rfl, ho⟩)
          all_goals go_wp2_with fail
          all_goals go_ret
          all_goals exact ⟨v, rfl, ho⟩
        · refine ⟨efgC neg x5 nd5 dp5, 1, neg, ⟨efgC_frac neg x5 nd5 dp5 hd5, by omega, by omega⟩, ?_⟩
          intro v0 a0 w hkw ha0 hown
          have ht := hkw.tabs ht0 hN
          have cO := ht.opt
          have hcb := c147
          go_enter Tryz.func118, Tryz.ntmps118
          go_wp2_with fail
          go_quiet (fail)
          have hown := hown.drewN nq
          have hkw := hkw.drewN nq
          clear cO ht
          generalize w.drewN nq = w1 at hown hkw ⊢
          have ht := hkw.tabs ht0 hN
          have cO := ht.opt
          go_wp2_with fail
          refine (log10 _ _ (by omega) (by omega)).mono ?_
          rintro e w' ⟨rfl, rfl⟩
          go_wp2_with fail
          have hown2 := hown.alloc (.cells Tryz.zeroCells248 248)
          have hD0 := dec0 (heap_at (w := w1) (o := .cells Tryz.zeroCells248 248) rfl)
          have hC0 := hown.kept.size
          generalize w1.alloc (.cells Tryz.zeroCells248 248) = w2 at hown2 hD0 ⊢
          generalize w1.heap.size = C at hD0 hC0 ⊢
          refine (HA.out _ _ hD0).mono ?_
          rintro en w3 ⟨rfl, hK3, hD3⟩
          go_wp2_with fail
          refine (HSH.out _ _ hD3).mono ?_
          rintro en w4 ⟨rfl, hK4, hD4⟩
          have cP4 := hD4.p
          go_wp2_with fail
          refine (HRO.out _ _ hD4).mono ?_
          rintro en w5 ⟨rfl, hK5, hD5⟩
          have cP5 := hD5.p
          have cN5 := hD5.n
          have hK : Kept [C] w2 w5 := Kept.trans (Kept.trans (Kept.trans hK3 hK4 (fun _ h => h) (fun _ h _ => h)) hK5 (fun _ h => h) (fun _ h _ => h)) (Kept.refl [C] w5) (fun _ h => h) (fun _ h _ => h)
          obtain ⟨cs2, hcs2, _⟩ := hD0.blk
          have ho5 := hown2.off hK hcs2 (by decide) hC0
          have hdg5 := hD5.digx hd5 (by omega)
          have HE : ∀ W : World, (∃ k, W = w5.drewN k) → Calls Tryz.prog 150 #[v0, .bool neg, .slice (some ⟨C, 0, none⟩) 800 800, .int .i64 dp5, .int .i64 nd5, .int .i64 12, .int .u8 102, .bool false] W fun en w' =>
              ∃ v, en = .returned v ∧ Own a0 w' v (efgC neg x5 nd5 dp5) := fun W ⟨k, h⟩ => by
            subst h
            exact efg_nonF neg x5 dp5 nd5 (by omega) (by omega) (by omega) v0 _ a0 _ (ho5.drewN k) (.inr ⟨C, 800, rfl, by omega, by omega, hdg5.same (by rw [Tryz.drewN_heap])⟩)
          have HHE := Lib.hid HE; clear HE hD0 hD3 hD4 hown2
          go_wp2_with fail
          go_region_with (go_at_call 150; refine (HHE.out _ ⟨_, rfl⟩).mono ?_; rintro en w' ⟨v, rfl, ho⟩)
          all_goals go_wp2_with fail
          all_goals go_ret
          all_goals exact ⟨v, rfl, ho⟩
end Go.Proofs.YtfkecmlmnhbmoaaGreatDoor
