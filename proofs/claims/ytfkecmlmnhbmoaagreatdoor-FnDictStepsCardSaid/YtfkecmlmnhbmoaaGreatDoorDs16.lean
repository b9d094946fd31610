import Derived.Test.YtfkecmlmnhbmoaaGreatDoorDs14
import Derived.Test.YtfkecmlmnhbmoaaGreatDoorDs15
import Derived.Lib.AppendIntMem
namespace Go.Proofs.YtfkecmlmnhbmoaaGreatDoor
open Go.RowKit
theorem c147 (b : Nat) (w : World) : (callFunc 147 #[.float .f64 b]).run Tryz.prog w = .ok (.value (.int .u64 b)) w := by
  rw [run_callFunc_extern Tryz.func147 (by kernel_rfl) (by kernel_rfl) (by kernel_rfl) (e := Extern.MathFloatBits.float64bits) (by kernel_rfl)]
  rfl
theorem c189 (b : Int) (w : World) : (callFunc 189 #[.int .u64 b]).run Tryz.prog w = .ok (.value (.float .f64 b.toNat)) w := by
  rw [run_callFunc_extern Tryz.func189 (by kernel_rfl) (by kernel_rfl) (by kernel_rfl) (e := Extern.MathFloatBits.float64frombits) (by kernel_rfl)]
  rfl
theorem Own.drewN {a0 w : World} {v : Value} {bs : List Int} (h : Own a0 w v bs) (n : Nat) : Own a0 (w.drewN n) v bs := ⟨by
  have := h.row
  unfold World.ownsRow at this ⊢
  rw [Tryz.drewN_heap]
  exact this, h.kept.drewN n⟩
theorem Own.ext {a0 w w' : World} {v : Value} {bs : List Int} (h : Own a0 w v bs) (hk : Kept [] w w') : Own a0 w' v bs := ⟨by
  have h1 := h.row
  refine ⟨h1.1, ?_⟩
  rcases h1.2 with h2 | ⟨g, cap, cur, h2, h3, h4, h5⟩
  · exact .inl h2
  · exact .inr ⟨g, cap, cur, h2, h3, (hk.block g (lt_of_block h4) (by simp)).trans h4, h5⟩, Kept.trans h.kept hk (fun _ h => h) (fun _ h _ => h)⟩
theorem holds24 {w : World} {C nd : Nat} (h : w.heap[C]? = some (.cells Lib.zeros24 156 (0, 0))) (hn : nd ≤ 24) : Sort.Holds encB w C 0 (Array.replicate nd (0 : UInt8)) := fun j hj => by
  have hj' : j < nd := by simpa using hj
  refine ⟨?_, by simp [World.frozen?, h]⟩
  have h1 : w.cell? ⟨C, 0 + j, none⟩ = Lib.zeros24[j]? := by simp [World.cell?, h]
  rw [h1, Lib.zeros24_at _ (by omega), getElem!_pos _ j hj]
  simp
theorem Own.off {a0 w w' : World} {v : Value} {bs : List Int} {C t : Nat} {cs : Array Value} (h : Own a0 w v bs) (hk : Kept [C] w w') (hC : w.heap[C]? = some (.cells cs t (0, 0))) (ht : t ≠ 5) (h0 : a0.heap.size ≤ C) : Own a0 w' v bs := ⟨by
  have h1 := h.row
  refine ⟨h1.1, ?_⟩
  rcases h1.2 with h2 | ⟨g, cap, cur, h2, h3, h4, h5⟩
  · exact .inl h2
  · refine .inr ⟨g, cap, cur, h2, h3, (hk.block g (lt_of_block h4) fun hm => ?_).trans h4, h5⟩
    rw [List.mem_singleton] at hm
    subst hm
    rw [hC] at h4
    simp only [Option.some.injEq, Obj.cells.injEq] at h4
    exact ht h4.2.1, Kept.trans h.kept hk (fun _ h => h) (fun x hx hl => by rw [List.mem_singleton] at hx; omega)⟩
def isZ : Option Value → Bool
  | some (.int .u8 n) => n == 0
  | _ => false
theorem isZ_eq {o : Option Value} (h : isZ o = true) : o = some (.int .u8 0) := by
  unfold isZ at h
  split at h
  · rename_i n; simp at h; rw [h]
  · cases h
theorem dec0 {w : World} {C : Nat} (h : w.heap[C]? = some (.cells Tryz.zeroCells248 248 (0, 0))) : Dec w C (fun _ => 0) 0 0 false false := by
  have hs : Tryz.zeroCells248.size = 804 := by kernel_rfl
  have h0 : ∀ i, i < 800 → Tryz.zeroCells248[i]? = some (.int .u8 0) := by
    have : ((List.range 800).all fun i => isZ Tryz.zeroCells248[i]?) = true := by kernel_rfl
    intro i hi
    exact isZ_eq (List.all_eq_true.1 this i (List.mem_range.2 hi))
  have k : ∀ o, w.cell? ⟨C, o, none⟩ = Tryz.zeroCells248[o]? := fun o => by simp [World.cell?, h]
  have h1 : Tryz.zeroCells248[800]? = some (.int .i64 0) := by kernel_rfl
  have h2 : Tryz.zeroCells248[801]? = some (.int .i64 0) := by kernel_rfl
  have h3 : Tryz.zeroCells248[802]? = some (.bool false) := by kernel_rfl
  have h4 : Tryz.zeroCells248[803]? = some (.bool false) := by kernel_rfl
  exact ⟨⟨_, h, hs⟩, fun i hi => (k i).trans (h0 i hi), (k _).trans h1, (k _).trans h2, (k _).trans h3, (k _).trans h4⟩
set_option maxRecDepth 100000 in
set_option maxHeartbeats 4000000 in
theorem ftoa (b : Nat) (v0 : Value) (N : Nat) (a0 w : World) (ht : Tabs N w) (hN : N ≤ a0.heap.size) (hown : Own a0 w v0 []) (hb : b < 18446744073709551616) (hE : b / 4503599627370496 % 2048 ≤ 1069) :
    Calls Tryz.prog 118 #[v0, .float .f64 b, .int .u8 102, .int .i64 12] w fun en w' =>
      ∃ v bs L neg, en = .returned v ∧ Own a0 w' v bs ∧ FracP neg L 12 bs ∧ 1 ≤ L ∧ L ≤ 37 := by
  have cO := ht.opt
  have hcb := c147
  obtain ⟨E, hE0⟩ : ∃ E, E = b / 4503599627370496 % 2048 := ⟨_, rfl⟩
  obtain ⟨m, hm0⟩ : ∃ m, m = b % 4503599627370496 := ⟨_, rfl⟩
  have fE : bits .and .i64 ((b : Int) / 4503599627370496) 2047 = (E : Int) := by
    have := bits_mask .i64 63 (by decide) (fun n h0 h1 => by rw [IntKind.wrap_i64]; omega) 11 (by decide) ((b : Int) / 4503599627370496) (by omega) (by omega)
    rw [show (2 : Int) ^ 11 - 1 = 2047 by decide] at this
    rw [this, hE0]; omega
  have fM : bits .and .u64 (b : Int) 4503599627370495 = (m : Int) := by
    have := bits_mask .u64 64 (by decide) (fun n h0 h1 => by rw [IntKind.wrap_u64]; omega) 52 (by decide) (b : Int) (by omega) (by omega)
    rw [show (2 : Int) ^ 52 - 1 = 4503599627370495 by decide] at this
    rw [this, hm0]; omega
  have hm : m < 4503599627370496 := by omega
  have fO : bits .or .u64 (m : Int) 4503599627370496 = ((m + 4503599627370496 : Nat) : Int) := by
    have := u64_or_nat m 4503599627370496 (by omega) (by decide)
    rw [Nat.or_comm, nat_join 52 4503599627370496 m (by decide) (by omega)] at this
    rw [show ((4503599627370496 : Nat) : Int) = 4503599627370496 from rfl] at this
    rw [this]; omega
  rw [← hE0] at hE
  clear hE0 hm0
  have z1 : ((E : Int) == 2047) = false := beq_eq_false_iff_ne.2 (by omega)
  obtain ⟨neg, hneg⟩ : ∃ neg : Bool, ((b : Int) / 9223372036854775808 != 0) = neg := ⟨_, rfl⟩
  have fin : ∀ (x : Ending) (W : World) (K : Prop), True := fun _ _ _ => trivial
  clear fin
  by_cases hE0 : E = 0
  · subst hE0
    go_enter Tryz.func118, Tryz.ntmps118
    go_wp2_with fail
    go_quiet (fail)
    have hNw : N ≤ w.heap.size := Nat.le_trans hN hown.kept.size
    have hown := hown.drewN nq
    have ht := ht.kept ((Kept.refl [] w).drewN nq) hNw (by simp)
    clear cO
    generalize w.drewN nq = w1 at hown ht ⊢
    have cO := ht.opt
    by_cases hmz : m = 0
    · subst hmz
      go_wp2_with fail
      refine (efg_non neg v0 (.slice none 0 0) 0 0 a0 w1 hown (by omega) (by omega) (by omega) (.inl rfl)).mono ?_
      rintro en w' ⟨v, bs, L, rfl, ho, hf, hl1, hl2⟩
      go_wp2_with fail
      go_ret
      exact ⟨v, bs, L, neg, rfl, ho, hf, hl1, hl2⟩
    · have z2 : ((m : Int) == 0) = false := beq_eq_false_iff_ne.2 (by omega)
      go_wp2_with fail
      refine (log10 _ _ (by omega) (by omega)).mono ?_
      rintro e w' ⟨rfl, rfl⟩
      go_wp2_with fail
      refine (efg_non neg v0 _ 0 0 a0 _ (hown.alloc _) (by omega) (by omega) (by omega) (.inl rfl)).mono ?_
      rintro en w' ⟨v, bs, L, rfl, ho, hf, hl1, hl2⟩
      go_wp2_with fail
      go_ret
      exact ⟨v, bs, L, neg, rfl, ho, hf, hl1, hl2⟩
  · have z3 : ((E : Int) == 0) = false := beq_eq_false_iff_ne.2 (by omega)
    have hE1 : 1 ≤ E := by omega
    obtain ⟨mm, hmm⟩ : ∃ mm, mm = m + 4503599627370496 := ⟨_, rfl⟩
    rw [← hmm] at fO
    have hmm1 : 4503599627370496 ≤ mm := by omega
    have hmm2 : mm < 9007199254740992 := by omega
    have z4 : ((mm : Int) == 0) = false := beq_eq_false_iff_ne.2 (by omega)
    have hl53 : bitLen mm = 53 := by
      unfold bitLen
      rw [if_neg (by omega)]
      have := (Nat.log2_eq_iff (show mm ≠ 0 by omega) (k := 52)).2 ⟨by omega, by omega⟩
      omega
    clear hmm
    go_enter Tryz.func118, Tryz.ntmps118
    go_wp2_with fail
    go_quiet (fail)
    have hNw : N ≤ w.heap.size := Nat.le_trans hN hown.kept.size
    have hown := hown.drewN nq
    have ht := ht.kept ((Kept.refl [] w).drewN nq) hNw (by simp)
    clear cO
    generalize w.drewN nq = w1 at hown ht ⊢
    have cO := ht.opt
    by_cases hexp : E < 1023
    · go_wp2_with fail
      refine (log10 _ _ (by omega) (by omega)).mono ?_
      rintro e w' ⟨rfl, rfl⟩
      by_cases hdig : (-((E : Int) + -1023)) * 78913 / 262144 < 13
      · go_wp2_with fail
        refine (len64 _ _ ⟨by omega, by omega⟩).mono ?_
        rintro e w' ⟨rfl, rfl⟩
        rw [Int.toNat_natCast, hl53]
        have ht2 := ht.kept ((Kept.refl [] w1).alloc (.cells Lib.zeros24 156)) (Nat.le_trans hN hown.kept.size) (by simp)
        have hN2 : N ≤ (w1.alloc (.cells Lib.zeros24 156)).heap.size := by have := hown.kept.size; simp; omega
        have hown2 := hown.alloc (.cells Lib.zeros24 156)
        go_wp2_with fail
        refine (fixedw _ _ _ _ N ht2 hN2 ⟨by omega, by omega⟩ (by omega) (by omega) (by omega) (by omega)).mono ?_
        rintro en w2 ⟨⟨d, p, hd, hp1, hp2, rfl⟩, hk2⟩
        have ho2 := hown2.ext hk2
        obtain ⟨dn, rfl, hdn⟩ := U_nat hd
        by_cases hd0 : dn = 0
        · subst hd0
          go_wp2_with fail
          refine (efg_non neg v0 _ 0 0 a0 w2 ho2 (by omega) (by omega) (by omega) (.inl rfl)).mono ?_
          rintro en w' ⟨v, bs, L, rfl, ho, hf, hl1, hl2⟩
          go_wp2_with fail
          go_ret
          exact ⟨v, bs, L, neg, rfl, ho, hf, hl1, hl2⟩
        · have z5 : ((dn : Int) != 0) = true := by simpa using hd0
          have hB2 : w2.heap[w1.heap.size]? = some (.cells Lib.zeros24 156 (0, 0)) := (hk2.block _ (by simp) (by simp)).trans (heap_at rfl)
          have ht3 := ht2.kept hk2 hN2 (by simp)
          have HT : ∀ W : World, (∃ k, W = w2.drewN k) → Tabs N W := fun W ⟨k, h⟩ => by
            subst h; exact ht3.kept ((Kept.refl [] w2).drewN k) (Nat.le_trans hN2 hk2.size) (by simp)
          have HS : ∀ (W : World) (nd : Nat), (∃ k, W = w2.drewN k) → 1 ≤ nd → nd ≤ 20 → dn < 10 ^ nd → Calls Tryz.prog 152 #[.slice (some ⟨w1.heap.size, 0, none⟩) 24 24, .int .u64 dn, .int .i64 p, .int .i64 nd] W fun en w' =>
              (∃ k : Nat, k ≤ nd ∧ en = .returned (.tuple #[.int .i64 (nd + p), .int .i64 k]) ∧ Digs w' w1.heap.size k) ∧ Kept [w1.heap.size] W w' := fun W nd ⟨k, h⟩ h1 h2 h3 => by
            subst h
            have hB3 : (w2.drewN k).heap[w1.heap.size]? = some (.cells Lib.zeros24 156 (0, 0)) := by rw [Tryz.drewN_heap]; exact hB2
            exact setdigits _ dn nd p _ h1 h2 h3 hdn (by omega) (by omega) (holds24 hB3 (by omega)) _ hB3
          have HHT := Lib.hid HT; have HHS := Lib.hid HS; clear HT HS
          go_wp2_with fail
          go_region_with (first
            | (go_at_call 91; refine (numdig dn _ N (HHT.out _ ⟨_, rfl⟩) (by omega) hdn).mono ?_; rintro e w' ⟨⟨nd, n1, n2, n3, rfl⟩, rfl⟩)
            | (go_at_call 152; refine (HHS.out _ nd ⟨_, rfl⟩ n1 n2 n3).mono ?_; rintro e w3 ⟨⟨k, hk, rfl, hdg⟩, hk3⟩))
          have hk4 : Kept [w1.heap.size] w2 w3 := Kept.trans (X := [w1.heap.size]) (by first | exact (Kept.refl _ _) | exact (Kept.refl _ _).drew | exact (Kept.refl _ _).drew.drew) hk3 (fun _ h => h) (fun _ h _ => h)
          have ho3 := ho2.off hk4 hB2 (by decide) (hown.kept.size)
          clear hk3 hk4 ho2 hown2 hk2 hB2 ht3 ht2
          by_cases hdp : 0 < (nd : Int) + p
          · go_wp2_with fail
            refine (efg_pos neg v0 w1.heap.size 24 ((nd : Int) + p) k a0 w3 ho3 hdp (by omega) (by omega) (by omega) hdg).mono ?_
            rintro en w' ⟨v, bs, L, rfl, ho, hf, hl1, hl2⟩
            go_wp2_with fail
            go_ret
            exact ⟨v, bs, L, neg, rfl, ho, hf, hl1, hl2⟩
          · go_wp2_with fail
            refine (efg_non neg v0 _ ((nd : Int) + p) k a0 w3 ho3 (by omega) (by omega) (by omega) (.inr ⟨w1.heap.size, 24, rfl, by omega, by omega, hdg⟩)).mono ?_
            rintro en w' ⟨v, bs, L, rfl, ho, hf, hl1, hl2⟩
            go_wp2_with fail
            go_ret
            exact ⟨v, bs, L, neg, rfl, ho, hf, hl1, hl2⟩
      · go_wp2_with fail
        refine (efg_non neg v0 _ 0 0 a0 _ (hown.alloc _) (by omega) (by omega) (by omega) (.inl rfl)).mono ?_
        rintro en w' ⟨v, bs, L, rfl, ho, hf, hl1, hl2⟩
        go_wp2_with fail
        go_ret
        exact ⟨v, bs, L, neg, rfl, ho, hf, hl1, hl2⟩
    · go_wp2_with fail
      refine (log10 _ _ (by omega) (by omega)).mono ?_
      rintro e w' ⟨rfl, rfl⟩
      by_cases hdig : (1 + ((E : Int) + -1023)) * 78913 / 262144 ≤ 5
      · go_wp2_with fail
        refine (len64 _ _ ⟨by omega, by omega⟩).mono ?_
        rintro e w' ⟨rfl, rfl⟩
        rw [Int.toNat_natCast, hl53]
        have ht2 := ht.kept ((Kept.refl [] w1).alloc (.cells Lib.zeros24 156)) (Nat.le_trans hN hown.kept.size) (by simp)
        have hN2 : N ≤ (w1.alloc (.cells Lib.zeros24 156)).heap.size := by have := hown.kept.size; simp; omega
        have hown2 := hown.alloc (.cells Lib.zeros24 156)
        go_wp2_with fail
        refine (fixedw _ _ _ _ N ht2 hN2 ⟨by omega, by omega⟩ (by omega) (by omega) (by omega) (by omega)).mono ?_
        rintro en w2 ⟨⟨d, p, hd, hp1, hp2, rfl⟩, hk2⟩
        have ho2 := hown2.ext hk2
        obtain ⟨dn, rfl, hdn⟩ := U_nat hd
        by_cases hd0 : dn = 0
        · subst hd0
          go_wp2_with fail
          refine (efg_non neg v0 _ 0 0 a0 w2 ho2 (by omega) (by omega) (by omega) (.inl rfl)).mono ?_
          rintro en w' ⟨v, bs, L, rfl, ho, hf, hl1, hl2⟩
          go_wp2_with fail
          go_ret
          exact ⟨v, bs, L, neg, rfl, ho, hf, hl1, hl2⟩
        · have z5 : ((dn : Int) != 0) = true := by simpa using hd0
          have hB2 : w2.heap[w1.heap.size]? = some (.cells Lib.zeros24 156 (0, 0)) := (hk2.block _ (by simp) (by simp)).trans (heap_at rfl)
          have ht3 := ht2.kept hk2 hN2 (by simp)
          have HT : ∀ W : World, (∃ k, W = w2.drewN k) → Tabs N W := fun W ⟨k, h⟩ => by
            subst h; exact ht3.kept ((Kept.refl [] w2).drewN k) (Nat.le_trans hN2 hk2.size) (by simp)
          have HS : ∀ (W : World) (nd : Nat), (∃ k, W = w2.drewN k) → 1 ≤ nd → nd ≤ 20 → dn < 10 ^ nd → Calls Tryz.prog 152 #[.slice (some ⟨w1.heap.size, 0, none⟩) 24 24, .int .u64 dn, .int .i64 p, .int .i64 nd] W fun en w' =>
              (∃ k : Nat, k ≤ nd ∧ en = .returned (.tuple #[.int .i64 (nd + p), .int .i64 k]) ∧ Digs w' w1.heap.size k) ∧ Kept [w1.heap.size] W w' := fun W nd ⟨k, h⟩ h1 h2 h3 => by
            subst h
            have hB3 : (w2.drewN k).heap[w1.heap.size]? = some (.cells Lib.zeros24 156 (0, 0)) := by rw [Tryz.drewN_heap]; exact hB2
            exact setdigits _ dn nd p _ h1 h2 h3 hdn (by omega) (by omega) (holds24 hB3 (by omega)) _ hB3
          have HHT := Lib.hid HT; have HHS := Lib.hid HS; clear HT HS
          go_wp2_with fail
          go_region_with (first
            | (go_at_call 91; refine (numdig dn _ N (HHT.out _ ⟨_, rfl⟩) (by omega) hdn).mono ?_; rintro e w' ⟨⟨nd, n1, n2, n3, rfl⟩, rfl⟩)
            | (go_at_call 152; refine (HHS.out _ nd ⟨_, rfl⟩ n1 n2 n3).mono ?_; rintro e w3 ⟨⟨k, hk, rfl, hdg⟩, hk3⟩))
          have hk4 : Kept [w1.heap.size] w2 w3 := Kept.trans (X := [w1.heap.size]) (by first | exact (Kept.refl _ _) | exact (Kept.refl _ _).drew | exact (Kept.refl _ _).drew.drew) hk3 (fun _ h => h) (fun _ h _ => h)
          have ho3 := ho2.off hk4 hB2 (by decide) (hown.kept.size)
          clear hk3 hk4 ho2 hown2 hk2 hB2 ht3 ht2
          by_cases hdp : 0 < (nd : Int) + p
          · go_wp2_with fail
            refine (efg_pos neg v0 w1.heap.size 24 ((nd : Int) + p) k a0 w3 ho3 hdp (by omega) (by omega) (by omega) hdg).mono ?_
            rintro en w' ⟨v, bs, L, rfl, ho, hf, hl1, hl2⟩
            go_wp2_with fail
            go_ret
            exact ⟨v, bs, L, neg, rfl, ho, hf, hl1, hl2⟩
          · go_wp2_with fail
            refine (efg_non neg v0 _ ((nd : Int) + p) k a0 w3 ho3 (by omega) (by omega) (by omega) (.inr ⟨w1.heap.size, 24, rfl, by omega, by omega, hdg⟩)).mono ?_
            rintro en w' ⟨v, bs, L, rfl, ho, hf, hl1, hl2⟩
            go_wp2_with fail
            go_ret
            exact ⟨v, bs, L, neg, rfl, ho, hf, hl1, hl2⟩
      · go_wp2_with fail
        have hown2 := hown.alloc (.cells Tryz.zeroCells248 248)
        have hD0 := dec0 (heap_at (w := w1) (o := .cells Tryz.zeroCells248 248) rfl)
        have hC0 := hown.kept.size
        generalize w1.alloc (.cells Tryz.zeroCells248 248) = w2 at hown2 hD0 ⊢
        generalize w1.heap.size = C at hD0 hC0 ⊢
        refine (dassign C _ 0 0 false false mm w2 hD0 (by omega) (by omega)).mono ?_
        rintro en w3 ⟨rfl, hK3, x3, nd3, dp3, hD3, hd3, n1, n2, x30, p1, p2⟩
        obtain ⟨k, hk⟩ : ∃ k : Nat, (E : Int) + -1023 - 52 = -(k : Int) := ⟨1075 - E, by omega⟩
        go_wp2_with fail
        refine (dshift_r C x3 nd3 dp3 false false k w3 hD3 hd3 n1 (by omega) x30 (by omega) (by omega) (by omega) (by omega)).mono ?_
        rintro en w4 ⟨rfl, hK4, x4, nd4, dp4, tr4, hD4, hd4, m1, m2, x40, q1, q2, _⟩
        have cP4 := hD4.p
        go_wp2_with fail
        refine (dround C x4 nd4 dp4 false tr4 (dp4 + 12) w4 hD4 m2 hd4 (by omega) (by omega)).mono ?_
        rintro en w5 ⟨rfl, hK5, x5, nd5, dp5, hD5, hd5, r1, r2⟩
        have cP5 := hD5.p
        have cN5 := hD5.n
        have hK : Kept [C] w2 w5 := Kept.trans (Kept.trans (Kept.trans hK3 hK4 (fun _ h => h) (fun _ h _ => h)) hK5 (fun _ h => h) (fun _ h _ => h)) (Kept.refl [C] w5) (fun _ h => h) (fun _ h _ => h)
        obtain ⟨cs2, hcs2, _⟩ := hD0.blk
        have ho5 := hown2.off hK hcs2 (by decide) hC0
        have hdg5 := hD5.digs hd5 (by omega)
        have HE : ∀ W : World, (∃ k, W = w5.drewN k) → Calls Tryz.prog 150 #[v0, .bool neg, .slice (some ⟨C, 0, none⟩) 800 800, .int .i64 dp5, .int .i64 nd5, .int .i64 12, .int .u8 102, .bool false] W fun en w' =>
            ∃ v bs L, en = .returned v ∧ Own a0 w' v bs ∧ FracP neg L 12 bs ∧ 1 ≤ L ∧ L ≤ 37 := fun W ⟨k, h⟩ => by
          subst h
          have hdk : Digs (w5.drewN k) C nd5 := hdg5.same (by rw [Tryz.drewN_heap])
          by_cases hdp : 0 < dp5
          · exact efg_pos neg v0 C 800 dp5 nd5 a0 _ (ho5.drewN k) hdp (by omega) (by omega) (by omega) hdk
          · exact efg_non neg v0 _ dp5 nd5 a0 _ (ho5.drewN k) (by omega) (by omega) (by omega) (.inr ⟨C, 800, rfl, by omega, by omega, hdk⟩)
        have HHE := Lib.hid HE; clear HE hD0 hD3 hD4 hown2
        go_wp2_with fail
        go_region_with (go_at_call 150; refine (HHE.out _ ⟨_, rfl⟩).mono ?_; rintro en w' ⟨v, bs, L, rfl, ho, hf, hl1, hl2⟩)
        all_goals go_wp2_with fail
        all_goals go_ret
        all_goals exact ⟨v, bs, L, neg, rfl, ho, hf, hl1, hl2⟩
end Go.Proofs.YtfkecmlmnhbmoaaGreatDoor
