import Derived.Test.YtfkecmlmnhbmoaaGreatDoorFk11
import Derived.Lib.AppendIntMem
import Derived.Lib.ItoaLen
namespace Go.Proofs.YtfkecmlmnhbmoaaGreatDoor
open Go.RowKit Go.Sort
/-- A block of m bytes. -/
structure Bt (w : World) (C : Nat) (y : Nat → Nat) (m t : Nat) : Prop where
  blk : ∃ cs, w.heap[C]? = some (.cells cs t (0, 0)) ∧ cs.size = m
  dig : ∀ i, i < m → w.cell? ⟨C, i, none⟩ = some (.int .u8 (y i : Nat))
section
variable {w : World} {C m t : Nat} {y : Nat → Nat}
theorem Bt.free (h : Bt w C y m t) (o : Nat) : w.frozen? ⟨C, o, none⟩ = false := by obtain ⟨cs, hc, _⟩ := h.blk; simp [World.frozen?, hc]
theorem Bt.lt (h : Bt w C y m t) : C < w.heap.size := by obtain ⟨cs, hc, _⟩ := h.blk; exact lt_of_block hc
theorem Bt.setD (h : Bt w C y m t) {i : Nat} (hi : i < m) (c : Nat) : Bt (w.setCell ⟨C, i, none⟩ (.int .u8 (c : Nat))) C (upd y i c) m t := by
  obtain ⟨cs, hc, hs⟩ := h.blk
  refine ⟨⟨_, block_set hc i _, by simpa using hs⟩, fun j hj => ?_⟩
  by_cases e : i = j
  · subst e; rw [upd_at]; simp [World.cell?, block_set hc, hs, hi]
  · rw [upd_ne _ _ (fun e2 => e e2.symm), cell_set_off _ _ _ _ _ e]; exact h.dig j hj
theorem Bt.same {w' : World} (h : Bt w C y m t) (e : w'.heap[C]? = w.heap[C]?) : Bt w' C y m t :=
  ⟨by rw [e]; exact h.blk, fun i hi => (World.cell?_of_block (w := w) e).trans (h.dig i hi)⟩
end
theorem bt24 (w : World) : Bt (w.alloc (.cells #[.int .u8 0, .int .u8 0, .int .u8 0, .int .u8 0, .int .u8 0, .int .u8 0, .int .u8 0, .int .u8 0, .int .u8 0, .int .u8 0, .int .u8 0, .int .u8 0, .int .u8 0, .int .u8 0, .int .u8 0, .int .u8 0, .int .u8 0, .int .u8 0, .int .u8 0, .int .u8 0, .int .u8 0, .int .u8 0, .int .u8 0, .int .u8 0] 156)) w.heap.size (fun _ => 0) 24 156 := by
  refine ⟨⟨_, heap_at rfl, rfl⟩, fun i hi => ?_⟩
  rw [World.cell?_alloc_new]
  exact Lib.zeros24_at i hi
end Go.Proofs.YtfkecmlmnhbmoaaGreatDoor
namespace Go.Proofs.YtfkecmlmnhbmoaaGreatDoor
open Go.RowKit Go.Sort
/-- A call's end: it came back with a boolean. -/
def RetB (e : Ending) : Prop := ∃ b : Bool, e = .returned (.bool b)
end Go.Proofs.YtfkecmlmnhbmoaaGreatDoor
namespace Go.Proofs.YtfkecmlmnhbmoaaGreatDoor
/-- The number of the first i digits. -/
def num (x : Nat → Nat) : Nat → Nat
  | 0 => 0
  | i + 1 => num x i * 10 + (x i - 48)
theorem num_lt {x : Nat → Nat} : ∀ {n : Nat}, Dg x n → num x n < 10 ^ n
  | 0, _ => by simp [num]
  | n + 1, h => by
    have := num_lt (n := n) (fun i hi => h i (by omega))
    have h2 := h n (by omega)
    unfold num
    rw [Nat.pow_succ]; omega
theorem num_ge {x : Nat → Nat} (h0 : x 0 ≠ 48) : ∀ {n : Nat}, Dg x (n + 1) → 10 ^ n ≤ num x (n + 1)
  | 0, h => by have := h 0 (by omega); simp [num]; omega
  | n + 1, h => by
    have := num_ge h0 (n := n) (fun i hi => h i (by omega))
    show _ ≤ num x (n + 1) * 10 + _
    rw [Nat.pow_succ]; omega
theorem num_top {x : Nat → Nat} : ∀ (j : Nat) {n : Nat}, Dg x (n + j) → num x (n + j) / 10 ^ j = num x n
  | 0, n, _ => by simp
  | j + 1, n, h => by
    have ih := num_top j (n := n) (fun i hi => h i (by omega))
    have hd := h (n + j) (by omega)
    show (num x (n + j) * 10 + (x (n + j) - 48)) / 10 ^ (j + 1) = _
    rw [Nat.pow_succ, Nat.mul_comm (10 ^ j) 10, ← Nat.div_div_eq_div_mul, ← ih]
    congr 1; omega
theorem num_digit {x : Nat → Nat} {n j : Nat} (h : Dg x n) (hj : j < n) : num x n / 10 ^ j % 10 = x (n - 1 - j) - 48 := by
  obtain ⟨m, rfl⟩ : ∃ m, n = m + 1 + j := ⟨n - 1 - j, by omega⟩
  rw [num_top j h]
  have hd := h m (by omega)
  rw [show m + 1 + j - 1 - j = m by omega]
  show (num x m * 10 + (x m - 48)) % 10 = _
  omega
/-- One digit further: the carry. -/
theorem carry_step (D P j : Nat) : ((D % 10 ^ j) * P / 10 ^ j + (D / 10 ^ j % 10) * P) / 10 = (D % 10 ^ (j + 1)) * P / 10 ^ (j + 1) := by
  have hp : 0 < 10 ^ j := Nat.pow_pos (by decide)
  rw [Nat.mod_pow_succ, Nat.pow_succ, ← Nat.div_div_eq_div_mul, Nat.add_mul, Nat.mul_assoc (10 ^ j), Nat.add_mul_div_left _ _ hp]
theorem carry_lt (D P j : Nat) (hP : 0 < P) : (D % 10 ^ j) * P / 10 ^ j < P := by
  have hp : 0 < 10 ^ j := Nat.pow_pos (by decide)
  rw [Nat.div_lt_iff_lt_mul hp, Nat.mul_comm P]
  exact Nat.mul_lt_mul_of_lt_of_le (Nat.mod_lt _ hp) (Nat.le_refl _) hP
/-- How many digits a shift by k adds, at the most. -/
def dlt (k : Nat) : Nat := if k = 0 then 0 else Lib.nDigits (2 ^ k)
/-- The bytes below which it adds one fewer. -/
def cut (k : Nat) : List UInt8 := if k = 0 then [] else Lib.decDigits (5 ^ k)
theorem dlt_fin : ∀ k : Fin 61, k.val = 0 ∨ (Lib.nDigits (5 ^ k.val) + Lib.nDigits (2 ^ k.val) = k.val + 1 ∧ 1 ≤ Lib.nDigits (2 ^ k.val) ∧ Lib.nDigits (2 ^ k.val) ≤ 19 ∧ 2 ^ k.val < 10 ^ Lib.nDigits (2 ^ k.val) ∧ 10 ^ (Lib.nDigits (2 ^ k.val) - 1) ≤ 2 ^ k.val) := by
  decide +kernel
end Go.Proofs.YtfkecmlmnhbmoaaGreatDoor
namespace Go.Proofs.YtfkecmlmnhbmoaaGreatDoor
open Go.RowKit
theorem p10 (n : Nat) : 0 < 10 ^ n := Nat.pow_pos (by decide)
theorem top_split {S c i : Nat} (hi : i < c) : S / 10 ^ (c - 1 - i) = S / 10 ^ (c - i) * 10 + S / 10 ^ (c - 1 - i) % 10 := by
  obtain ⟨e, rfl⟩ : ∃ e, c = i + 1 + e := ⟨c - i - 1, by omega⟩
  rw [show i + 1 + e - 1 - i = e by omega, show i + 1 + e - i = e + 1 by omega, Nat.pow_succ, ← Nat.div_div_eq_div_mul]
  omega
theorem num_high {x : Nat → Nat} {n i : Nat} (h : Dg x n) (hi : i ≤ n) : num x i * 10 ^ (n - i) ≤ num x n ∧ num x n < (num x i + 1) * 10 ^ (n - i) := by
  obtain ⟨j, rfl⟩ : ∃ j, n = i + j := ⟨n - i, by omega⟩
  have := num_top j h
  rw [Nat.add_sub_cancel_left, ← this]
  exact ⟨Nat.div_mul_le_self _ _, (Nat.div_lt_iff_lt_mul (p10 j)).1 (Nat.lt_succ_self _)⟩
theorem pow3 {c n i : Nat} (hi : i ≤ c) (hn : i ≤ n) (T : Nat) : T * 10 ^ (n - i) * 10 ^ c = T * 10 ^ (c - i) * 10 ^ n := by
  rw [Nat.mul_assoc, Nat.mul_assoc, ← Nat.pow_add, ← Nat.pow_add, show n - i + c = c - i + n by omega]
theorem pre_less {x : Nat → Nat} {S c n i : Nat} (h : Dg x n) (hi : i < c) (hn : i < n) (e : num x i = S / 10 ^ (c - i)) (hl : x i - 48 < S / 10 ^ (c - 1 - i) % 10) : num x n * 10 ^ c < S * 10 ^ n := by
  have h1 := top_split (S := S) hi
  have h2 : num x (i + 1) + 1 ≤ S / 10 ^ (c - (i + 1)) := by
    show num x i * 10 + (x i - 48) + 1 ≤ _
    rw [show c - (i + 1) = c - 1 - i by omega, e]; omega
  have h3 := (num_high h (show i + 1 ≤ n by omega)).2
  have h4 : num x n < S / 10 ^ (c - (i + 1)) * 10 ^ (n - (i + 1)) := Nat.lt_of_lt_of_le h3 (Nat.mul_le_mul_right _ h2)
  have h5 := Nat.mul_lt_mul_of_pos_right h4 (p10 c)
  rw [pow3 (by omega) (by omega)] at h5
  exact Nat.lt_of_lt_of_le h5 (Nat.mul_le_mul_right _ (Nat.div_mul_le_self _ _))
theorem pre_more {x : Nat → Nat} {S c n i : Nat} (h : Dg x n) (hi : i < c) (hn : i < n) (e : num x i = S / 10 ^ (c - i)) (hl : S / 10 ^ (c - 1 - i) % 10 < x i - 48) : S * 10 ^ n ≤ num x n * 10 ^ c := by
  have h1 := top_split (S := S) hi
  have h2 : S / 10 ^ (c - (i + 1)) + 1 ≤ num x (i + 1) := by
    show _ ≤ num x i * 10 + (x i - 48)
    rw [show c - (i + 1) = c - 1 - i by omega, e]; omega
  have h3 := (num_high h (show i + 1 ≤ n by omega)).1
  have h4 : S < (S / 10 ^ (c - (i + 1)) + 1) * 10 ^ (c - (i + 1)) := (Nat.div_lt_iff_lt_mul (p10 _)).1 (Nat.lt_succ_self _)
  have h5 : S * 10 ^ n ≤ (S / 10 ^ (c - (i + 1)) + 1) * 10 ^ (c - (i + 1)) * 10 ^ n := Nat.mul_le_mul_right _ (Nat.le_of_lt h4)
  rw [← pow3 (by omega) (by omega)] at h5
  exact Nat.le_trans h5 (Nat.mul_le_mul_right _ (Nat.le_trans (Nat.mul_le_mul_right _ h2) h3))
theorem pre_all {x : Nat → Nat} {S c n : Nat} (h : Dg x n) (hc : c ≤ n) (e : num x c = S / 10 ^ (c - c)) : S * 10 ^ n ≤ num x n * 10 ^ c := by
  rw [Nat.sub_self, Nat.pow_zero, Nat.div_one] at e
  have h3 := (num_high h hc).1
  rw [e] at h3
  have := pow3 (n := n) (Nat.le_refl c) hc S
  rw [Nat.sub_self, Nat.pow_zero, Nat.mul_one] at this
  rw [← this]
  exact Nat.mul_le_mul_right _ h3
theorem pre_short {x : Nat → Nat} {S c n : Nat} (hn : n < c) (e : num x n = S / 10 ^ (c - n)) (hS : S % 10 ≠ 0) : num x n * 10 ^ c < S * 10 ^ n := by
  obtain ⟨m, hm⟩ : ∃ m, c - n = m + 1 := ⟨c - n - 1, by omega⟩
  have h1 : num x n * 10 ^ (c - n) < S := by
    have h2 := Nat.div_mul_le_self S (10 ^ (c - n))
    rw [← e] at h2
    rcases Nat.lt_or_ge (num x n * 10 ^ (c - n)) S with h | h
    · exact h
    · have e2 : S = num x n * 10 ^ (c - n) := by omega
      rw [hm, Nat.pow_succ, ← Nat.mul_assoc] at e2
      exact absurd (by rw [e2]; exact Nat.mul_mod_left _ _) hS
  have h3 := Nat.mul_lt_mul_of_pos_right h1 (p10 n)
  rwa [Nat.mul_assoc, ← Nat.pow_add, Nat.sub_add_cancel (by omega)] at h3
/-- What the comparison of the first digits comes back with. -/
def PreB (e : Ending) (D c S n : Nat) : Prop := ∃ b : Bool, e = .returned (.bool b) ∧ (b = true → D * 10 ^ c < S * 10 ^ n) ∧ (b = false → S * 10 ^ n ≤ D * 10 ^ c)
set_option maxRecDepth 100000 in
set_option maxHeartbeats 2000000 in
theorem prefixlt (B : Nat) (x : Nat → Nat) (nd cap S c : Nat) (s : ByteArray) (w : World) (hc : ∀ i, i < nd → w.cell? ⟨B, i, none⟩ = some (.int .u8 (x i : Nat))) (h8 : nd ≤ 800) (hd : Dg x nd)
    (hs : s.size = c) (hc60 : c ≤ 100) (hsd : ∀ i (h : i < s.size), (s[i]'h).toNat = 48 + S / 10 ^ (c - 1 - i) % 10) (hS : S % 10 ≠ 0) (hS2 : S < 10 ^ c) :
    Calls Tryz.prog 234 #[.slice (some ⟨B, 0, none⟩) nd cap, .string s] w fun en w' => PreB en (num x nd) c S nd ∧ ∃ k, w' = w.drewN k := by
  go_enter Tryz.func234, Tryz.ntmps234
  go_wp2_with fail
  go_loopw [5] (fun vi wr => ∃ i : Nat, i ≤ c ∧ i ≤ nd ∧ vi = .int .i64 i ∧ num x i = S / 10 ^ (c - i) ∧ ∃ k, wr = w.drewN k) (fun vi _ => c - (intOf vi).toNat)
  case atStart => exact ⟨0, by omega, by omega, rfl, by rw [Nat.sub_zero, Nat.div_eq_of_lt hS2]; rfl, 0, rfl⟩
  case round =>
    obtain ⟨i, hic, hin, rfl, he, k, rfl⟩ := hrel
    by_cases h1 : i < c
    · by_cases h2 : i < nd
      · have his : i < s.size := by omega
        have cI := hc i h2
        have hq := hsd i his
        have hx := hd i h2
        have hsp := top_split (S := S) h1
        obtain ⟨q, hq0⟩ : ∃ q, q = S / 10 ^ (c - 1 - i) % 10 := ⟨_, rfl⟩
        rw [← hq0] at hq
        have hq9 : q ≤ 9 := by omega
        have less := fun h => pre_less hd h1 h2 he (by rw [← hq0]; exact h)
        have more := fun h => pre_more hd h1 h2 he (by rw [← hq0]; exact h)
        have same : x i = 48 + q → num x (i + 1) = S / 10 ^ (c - (i + 1)) := fun h => by
          show num x i * 10 + (x i - 48) = _
          rw [show c - (i + 1) = c - 1 - i by omega, he]; omega
        have L := Lib.hid less; have M := Lib.hid more; have E := Lib.hid same
        clear less more same hsp hq0 he hsd
        have hd0 := Lib.hid hd; clear hd
        go_wp2_with fail
        go_quiet (fail)
        go_wp2_with fail
        · have hne : (x i : Int) ≠ 48 + q := by simpa using ‹((x i : Int) != 48 + (q : Int)) = true›
          generalize nq = a0
          go_quiet (fail)
          go_wp2_with fail
          go_ret
          refine ⟨⟨decide ((x i : Int) < 48 + q), rfl, fun h => L.out ?_, fun h => M.out ?_⟩, k + a0 + nq, ?_⟩
          · have := of_decide_eq_true h; omega
          · have := of_decide_eq_false h; omega
          · rw [World.drewN_drewN, World.drewN_drewN, Nat.add_assoc]
        · have hne : (x i : Int) = 48 + q := by simpa using ‹((x i : Int) != 48 + (q : Int)) = false›
          exact ⟨⟨i + 1, by omega, by omega, rfl, E.out (by omega), k + nq, rfl⟩, by simp [intOf]; omega⟩
      · obtain rfl : i = nd := by omega
        go_wp2_with fail
        go_ret
        exact ⟨⟨true, rfl, fun _ => pre_short h1 he hS, fun h => by cases h⟩, k, rfl⟩
    · obtain rfl : i = c := by omega
      go_wp2_with fail
      go_ret
      exact ⟨⟨false, rfl, (fun h => by cases h), fun _ => pre_all hd hin he⟩, k, rfl⟩
theorem prefixlt' (B : Nat) (x : Nat → Nat) (nd cap S c : Nat) (s : ByteArray) (w : World) (hc : ∀ i, i < nd → w.cell? ⟨B, i, none⟩ = some (.int .u8 (x i : Nat))) (h8 : nd ≤ 800) (hd : Dg x nd)
    (hs : s.size = c) (hc60 : c ≤ 100) (hsd : ∀ i (h : i < s.size), (s[i]'h).toNat = 48 + S / 10 ^ (c - 1 - i) % 10) (hS : S % 10 ≠ 0) (hS2 : S < 10 ^ c) :
    Calls Tryz.prog 234 #[.slice (some ⟨B, 0, none⟩) nd cap, .string s] w fun en w' => en = .returned (.bool (decide (num x nd * 10 ^ c < S * 10 ^ nd))) ∧ ∃ k, w' = w.drewN k :=
  (prefixlt B x nd cap S c s w hc h8 hd hs hc60 hsd hS hS2).mono fun en w' ⟨⟨b, h, h1, h2⟩, h3⟩ => ⟨by
    rw [h]; cases b
    · rw [decide_eq_false (by have := h2 rfl; omega)]
    · rw [decide_eq_true (h1 rfl)], h3⟩
end Go.Proofs.YtfkecmlmnhbmoaaGreatDoor
