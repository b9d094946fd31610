import Derived.Test.YtfkecmlmnhbmoaaGreatDoorFk27
import Derived.Test.YtfkecmlmnhbmoaaGreatDoorFk30
import Derived.Test.YtfkecmlmnhbmoaaGreatDoorFk22
namespace Go.Proofs.YtfkecmlmnhbmoaaGreatDoor
open Go.RowKit
def nmF (s : ByteArray) (k : Nat) : Option Nat := if k < s.size then (if btx s k = 0 then none else some (k + 1)) else none
def sgF (s : ByteArray) (k : Nat) : Option Nat := if k < s.size then (if btx s k = 35 then none else some (k + 1)) else none
theorem nm_ends (s : ByteArray) : ∃ T, Tr (nmF s) 0 T ∧ T ≤ s.size := by
  obtain ⟨T, h1, h2, _⟩ := Tr.ends (f := nmF s) (fun k => s.size - k) (fun k => k ≤ s.size) (fun a b h e => by
    unfold nmF at e
    split at e
    · split at e
      · cases e
      · cases e; omega
    · cases e) _ 0 (Nat.le_refl _) (Nat.zero_le _)
  exact ⟨T, h1, h2⟩
theorem sg_ends (s : ByteArray) : ∃ T, Tr (sgF s) 0 T ∧ T ≤ s.size := by
  obtain ⟨T, h1, h2, _⟩ := Tr.ends (f := sgF s) (fun k => s.size - k) (fun k => k ≤ s.size) (fun a b h e => by
    unfold sgF at e
    split at e
    · split at e
      · cases e
      · cases e; omega
    · cases e) _ 0 (Nat.le_refl _) (Nat.zero_le _)
  exact ⟨T, h1, h2⟩
set_option maxHeartbeats 1000000 in
theorem nameabF (s : ByteArray) (hs : s.size ≤ 140737488355000) : ∃ b : Bool, ∀ w, Calls Tryz.prog 45 #[.string s] w fun e w' => e = .returned (.bool b) ∧ w = w' := by
  obtain ⟨T, hT, hTs⟩ := nm_ends s
  refine ⟨decide (T = s.size), fun w => ?_⟩
  have HT := Lib.hid hT; clear hT
  go_enter Tryz.func45, Tryz.ntmps45
  go_wp2_with fail
  go_loop [6] (fun vi => ∃ k : Nat, k ≤ s.size ∧ vi = .int .i64 k ∧ Tr (nmF s) k T) (fun vi => s.size - (intOf vi).toNat)
  case atStart => exact ⟨0, by omega, rfl, HT.out⟩
  case round =>
    obtain ⟨k, hk, rfl, hT⟩ := hrel
    have HTT := Lib.hid hT; clear hT
    by_cases hlt : k < s.size
    · have hbx : btx s k = (s[k]'hlt).toNat := btx_at hlt
      have HBX := Lib.hid hbx; clear hbx
      by_cases h0 : (s[k]'hlt).toNat = 0
      · have z0 : (((s[k]'hlt).toNat : Int) == 0) = true := by rw [h0]; rfl
        have hte := HTT.out.last (show nmF s k = none by unfold nmF; rw [if_pos hlt, if_pos (by rw [HBX.out, h0])])
        have hd : decide (T = s.size) = false := by simp; omega
        have HD := Lib.hid hd; clear hte h0 hd
        go_wp2_with fail
        go_ret
        exact ⟨(by rw [HD.out]; first | done | rfl), rfl⟩
      · have z0 : (((s[k]'hlt).toNat : Int) == 0) = false := beq_eq_false_iff_ne.2 (by omega)
        have hn := HTT.out.next (show nmF s k = some (k + 1) by unfold nmF; rw [if_pos hlt, if_neg (by rw [HBX.out]; exact h0)])
        have HN := Lib.hid hn; clear hn h0
        go_wp2_with fail
        exact ⟨⟨k + 1, by omega, by go_num, HN.out⟩, by simp [intOf]; omega⟩
    · have hte := HTT.out.last (show nmF s k = none from if_neg hlt)
      have hd : decide (T = s.size) = true := by simp; omega
      have HD := Lib.hid hd; clear hte hd
      go_wp2_with fail
      go_ret
      exact ⟨(by rw [HD.out]; first | done | rfl), rfl⟩
set_option maxHeartbeats 1000000 in
theorem signedwF (s : ByteArray) (hs : s.size ≤ 140737488355000) : ∃ b : Bool, ∀ w, Calls Tryz.prog 47 #[.string s] w fun e w' => e = .returned (.bool b) ∧ w = w' := by
  obtain ⟨T, hT, hTs⟩ := sg_ends s
  refine ⟨!decide (T = s.size), fun w => ?_⟩
  have HT := Lib.hid hT; clear hT
  go_enter Tryz.func47, Tryz.ntmps47
  go_wp2_with fail
  go_loop [6] (fun vi => ∃ k : Nat, k ≤ s.size ∧ vi = .int .i64 k ∧ Tr (sgF s) k T) (fun vi => s.size - (intOf vi).toNat)
  case atStart => exact ⟨0, by omega, rfl, HT.out⟩
  case round =>
    obtain ⟨k, hk, rfl, hT⟩ := hrel
    have HTT := Lib.hid hT; clear hT
    by_cases hlt : k < s.size
    · have hbx : btx s k = (s[k]'hlt).toNat := btx_at hlt
      have HBX := Lib.hid hbx; clear hbx
      by_cases h0 : (s[k]'hlt).toNat = 35
      · have z0 : (((s[k]'hlt).toNat : Int) == 35) = true := by rw [h0]; rfl
        have hte := HTT.out.last (show sgF s k = none by unfold sgF; rw [if_pos hlt, if_pos (by rw [HBX.out, h0])])
        have hd : (!decide (T = s.size)) = true := by simp; omega
        have HD := Lib.hid hd; clear hte h0 hd
        go_wp2_with fail
        go_ret
        exact ⟨(by rw [HD.out]; first | done | rfl), rfl⟩
      · have z0 : (((s[k]'hlt).toNat : Int) == 35) = false := beq_eq_false_iff_ne.2 (by omega)
        have hn := HTT.out.next (show sgF s k = some (k + 1) by unfold sgF; rw [if_pos hlt, if_neg (by rw [HBX.out]; exact h0)])
        have HN := Lib.hid hn; clear hn h0
        go_wp2_with fail
        exact ⟨⟨k + 1, by omega, by go_num, HN.out⟩, by simp [intOf]; omega⟩
    · have hte := HTT.out.last (show sgF s k = none from if_neg hlt)
      have hd : (!decide (T = s.size)) = false := by simp; omega
      have HD := Lib.hid hd; clear hte hd
      go_wp2_with fail
      go_ret
      exact ⟨(by rw [HD.out]; first | done | rfl), rfl⟩
/-- A hexadecimal digit's worth. -/
def hx (c : Int) : Int := if 48 ≤ c ∧ c ≤ 57 then c - 48 else if 97 ≤ c ∧ c ≤ 102 then c - 87 else if 65 ≤ c ∧ c ≤ 70 then c - 55 else -1
theorem hx_rng (c : Int) : -1 ≤ hx c ∧ hx c ≤ 15 := by unfold hx; split; omega; split; omega; split <;> omega
set_option maxHeartbeats 1000000 in
theorem hexdF (c : Int) (w : World) (h1 : 0 ≤ c) (h2 : c ≤ 255) : Calls Tryz.prog 70 #[.int .u8 c] w fun e w' => e = .returned (.int .i64 (hx c)) ∧ w = w' := by
  by_cases ha : 48 ≤ c ∧ c ≤ 57
  · have hh : hx c = c - 48 := if_pos ha
    have HH := Lib.hid hh
    obtain ⟨a1, a2⟩ := ha
    clear hh
    go_enter Tryz.func70, Tryz.ntmps70
    go_wp2_with (go_at_call 22; refine (digit c _ h1 h2).mono ?_; rintro e w' ⟨rfl, rfl⟩)
    go_ret
    exact ⟨(by rw [HH.out]; first | done | rfl), rfl⟩
  · by_cases hb : 97 ≤ c ∧ c ≤ 102
    · have hh : hx c = c - 87 := by unfold hx; rw [if_neg ha, if_pos hb]
      have HH := Lib.hid hh
      obtain ⟨a1, a2⟩ := hb
      clear hh ha
      go_enter Tryz.func70, Tryz.ntmps70
      go_wp2_with (go_at_call 22; refine (digit_no c _ h1 h2 (by omega)).mono ?_; rintro e w' ⟨rfl, rfl⟩)
      go_ret
      exact ⟨congrArg (fun n => Ending.returned (Value.int .i64 n)) (show c - 97 + 10 = hx c by rw [HH.out]; omega), rfl⟩
    · by_cases hc : 65 ≤ c ∧ c ≤ 70
      · have hh : hx c = c - 55 := by unfold hx; rw [if_neg ha, if_neg hb, if_pos hc]
        have HH := Lib.hid hh
        obtain ⟨a1, a2⟩ := hc
        clear hh ha hb
        go_enter Tryz.func70, Tryz.ntmps70
        go_wp2_with (go_at_call 22; refine (digit_no c _ h1 h2 (by omega)).mono ?_; rintro e w' ⟨rfl, rfl⟩)
        go_ret
        exact ⟨congrArg (fun n => Ending.returned (Value.int .i64 n)) (show c - 65 + 10 = hx c by rw [HH.out]; omega), rfl⟩
      · have hh : hx c = -1 := by unfold hx; rw [if_neg ha, if_neg hb, if_neg hc]
        have HH := Lib.hid hh
        have hcase : c < 48 ∨ (57 < c ∧ c < 65) ∨ (70 < c ∧ c < 97) ∨ 102 < c := by omega
        clear hh ha hb hc
        rcases hcase with a1 | ⟨a1, a2⟩ | ⟨a1, a2⟩ | a1
        all_goals
          go_enter Tryz.func70, Tryz.ntmps70
          go_wp2_with (go_at_call 22; refine (digit_no c _ h1 h2 (by omega)).mono ?_; rintro e w' ⟨rfl, rfl⟩)
          go_ret
          exact ⟨(by rw [HH.out]; first | done | rfl), rfl⟩
def wh (c : Int) : Bool := decide (c = 0 ∨ c = 9 ∨ c = 10 ∨ c = 12 ∨ c = 13 ∨ c = 32)
set_option maxHeartbeats 1000000 in
theorem whiteF (c : Int) (w : World) (_h1 : 0 ≤ c) (_h2 : c ≤ 255) : Calls Tryz.prog 89 #[.int .u8 c] w fun e w' => e = .returned (.bool (wh c)) ∧ w = w' := by
  go_enter Tryz.func89, Tryz.ntmps89
  go_wp2_with fail
  all_goals go_ret
  all_goals refine ⟨congrArg (fun b => Ending.returned (.bool b)) ?_, rfl⟩
  all_goals unfold wh
  all_goals first | (simp; omega) | (simp_all; done)
end Go.Proofs.YtfkecmlmnhbmoaaGreatDoor
namespace Go.Proofs.YtfkecmlmnhbmoaaGreatDoor
open Go.RowKit
/-- A reader in the block R: its text, how far it is, and what was noted. -/
def RdB (w : World) (R : Nat) (s : ByteArray) (t : Nat) (bd : Int) : Prop := ∃ (deep : Int) (odd ends : Bool), w.heap[R]? = some (.cells #[.string s, .int .i64 (t : Nat), .int .i64 bd, .int .i64 deep, .bool odd, .bool ends] 132 (0, 0))
section
variable {w : World} {R : Nat} {s : ByteArray} {t : Nat} {bd : Int}
theorem RdB.r (h : RdB w R s t bd) : Rdr w R s t := by obtain ⟨a, b, c, h⟩ := h; exact ⟨bd, a, b, c, h⟩
theorem RdB.c0 (h : RdB w R s t bd) : w.cell? ⟨R, 0, none⟩ = some (.string s) := h.r.c0
theorem RdB.c1 (h : RdB w R s t bd) : w.cell? ⟨R, 1, none⟩ = some (.int .i64 (t : Nat)) := h.r.c1
theorem RdB.c2 (h : RdB w R s t bd) : w.cell? ⟨R, 2, none⟩ = some (.int .i64 bd) := by obtain ⟨a, b, c, h⟩ := h; simp [World.cell?, h]
theorem RdB.fr (h : RdB w R s t bd) : ∀ o, w.frozen? ⟨R, o, none⟩ = false := h.r.fr
theorem RdB.lt (h : RdB w R s t bd) : R < w.heap.size := h.r.lt
theorem RdB.setAt (h : RdB w R s t bd) (t' : Nat) : RdB (w.setCell ⟨R, 1, none⟩ (.int .i64 (t' : Nat))) R s t' bd := by
  obtain ⟨deep, odd, ends, h⟩ := h
  exact ⟨deep, odd, ends, by rw [block_set h]; simp⟩
theorem RdB.setAt' (h : RdB w R s t bd) (t' : Nat) (x : Int) (e : x = t') : RdB (w.setCell ⟨R, 1, none⟩ (.int .i64 x)) R s t' bd := by subst e; exact h.setAt t'
theorem RdB.setBad (h : RdB w R s t bd) (b : Int) : RdB (w.setCell ⟨R, 2, none⟩ (.int .i64 b)) R s t b := by
  obtain ⟨deep, odd, ends, h⟩ := h
  exact ⟨deep, odd, ends, by rw [block_set h]; simp⟩
theorem RdB.setOdd (h : RdB w R s t bd) (b : Bool) : RdB (w.setCell ⟨R, 4, none⟩ (.bool b)) R s t bd := by
  obtain ⟨deep, odd, ends, h⟩ := h
  exact ⟨deep, b, ends, by rw [block_set h]; simp⟩
theorem RdB.setEnds (h : RdB w R s t bd) (b : Bool) : RdB (w.setCell ⟨R, 5, none⟩ (.bool b)) R s t bd := by
  obtain ⟨deep, odd, ends, h⟩ := h
  exact ⟨deep, odd, b, by rw [block_set h]; simp⟩
theorem RdB.same {w' : World} (h : RdB w R s t bd) (e : w'.heap[R]? = w.heap[R]?) : RdB w' R s t bd := by
  obtain ⟨deep, odd, ends, h⟩ := h
  exact ⟨deep, odd, ends, e.trans h⟩
theorem RdB.drewN (h : RdB w R s t bd) (n : Nat) : RdB (w.drewN n) R s t bd := h.same (by rw [Tryz.drewN_heap])
theorem RdB.keep {w' : World} (h : RdB w R s t bd) (k : ∀ (B : Nat) (cs : Array Value) (t : Nat) (f : Nat × Nat), w.heap[B]? = some (.cells cs t f) → t ≠ 5 → w'.heap[B]? = some (.cells cs t f)) : RdB w' R s t bd := by
  obtain ⟨deep, odd, ends, h⟩ := h
  exact ⟨deep, odd, ends, k _ _ _ _ h (by decide)⟩
end
set_option maxRecDepth 100000 in
set_option maxHeartbeats 2000000 in
theorem rfailB (R : Nat) (s : ByteArray) (t : Nat) (b : Int) (w : World) (hR : RdB w R s t 0) : Calls Tryz.prog 88 #[.pointer (some ⟨R, 0, none⟩), .int .i64 b] w fun e w' => FailR e ∧ RdB w' R s t b ∧ Kept [R] w w' := by
  have c0 := hR.c0; have c1 := hR.c1; have c2 := hR.c2; have hf := hR.fr
  have hlt := hR.lt
  have hne : R ≠ w.heap.size := by omega
  have hb := heap_at (w := w) (o := .cells #[.int .i64 0, .int .i64 0, .int .i64 0, .float .f64 0, .string ⟨#[]⟩, .slice none 0 0, .slice none 0 0] 31) rfl
  obtain ⟨⟨k0, k1, k2, k3, k4, k5, k6⟩, f0, f1, f2, f3, f4, f5, f6⟩ := seven hb
  have hoff := cell_set_off
  have r0 := fun (X : World) (i j : Nat) (u : Value) => cell_set_other hne i j X u
  have hN : w.heap.size ≤ w.heap.size := Nat.le_refl _
  have HB := Lib.hid hb; clear hb
  go_enter Tryz.func88, Tryz.ntmps88
  go_wp2_with fail
  refine bodyPost_ret (v := .agg #[.int .i64 0, .int .i64 0, .int .i64 0, .float .f64 0, .string ⟨#[]⟩, .slice none 0 0, .slice none 0 0]) (by simp [results, Tryz.results88, go_sem]) rfl ⟨⟨_, rfl⟩, ?_, ?_⟩
  · exact (hR.setBad b).same (heap_lt (by simpa using hlt))
  · exact ((Kept.refl [R] w).set1 2 (.int .i64 b)).alloc _
/-- The octal digits behind a reverse solidus. -/
def ocF (s : ByteArray) (q : Nat × Int) : Option (Nat × Int) := if q.1 < s.size ∧ q.2 < 3 ∧ 48 ≤ btx s q.1 ∧ btx s q.1 ≤ 55 then some (q.1 + 1, q.2 + 1) else none
theorem oc_ends (s : ByteArray) (t : Nat) (ht : t ≤ s.size) : ∃ T, Tr (ocF s) (t, 1) T ∧ t ≤ T.1 ∧ T.1 ≤ s.size := by
  obtain ⟨T, h1, ⟨h2, h3⟩, _⟩ := Tr.ends (f := ocF s) (fun q => s.size - q.1) (fun q => t ≤ q.1 ∧ q.1 ≤ s.size) (fun a b h e => by
    unfold ocF at e
    split at e
    · cases e; dsimp only; omega
    · cases e) _ (t, 1) (Nat.le_refl _) ⟨Nat.le_refl _, ht⟩
  exact ⟨T, h1, h2, h3⟩
def EscB (s : ByteArray) (t t' : Nat) : Prop := ∀ (R : Nat) (w : World), RdB w R s t 0 → Calls Tryz.prog 87 #[.pointer (some ⟨R, 0, none⟩)] w fun e w' => EscR e ∧ RdB w' R s t' 0 ∧ Kept [R] w w'
set_option maxRecDepth 100000 in
set_option maxHeartbeats 8000000 in
theorem escapeF (s : ByteArray) (t : Nat) (ht : t ≤ s.size) (hs : s.size ≤ 140737488355000) : ∃ t', (t ≤ t' ∧ t' ≤ s.size) ∧ EscB s t t' := by
  by_cases hlt : t < s.size
  · have hb := (s[t]'hlt).toNat_lt
    obtain ⟨t1, ht1⟩ : ∃ t1, t1 = t + 1 := ⟨_, rfl⟩
    have ht2 : t1 ≤ s.size := by omega
    have ht3 : t ≤ t1 := by omega
    have HT1 := Lib.hid ht1; clear ht1
    by_cases h13 : (s[t]'hlt).toNat = 13
    · have z1 : (((s[t]'hlt).toNat : Int) == 110) = false := beq_eq_false_iff_ne.2 (by omega)
      have z2 : (((s[t]'hlt).toNat : Int) == 114) = false := beq_eq_false_iff_ne.2 (by omega)
      have z3 : (((s[t]'hlt).toNat : Int) == 116) = false := beq_eq_false_iff_ne.2 (by omega)
      have z4 : (((s[t]'hlt).toNat : Int) == 98) = false := beq_eq_false_iff_ne.2 (by omega)
      have z5 : (((s[t]'hlt).toNat : Int) == 102) = false := beq_eq_false_iff_ne.2 (by omega)
      have z6 : (((s[t]'hlt).toNat : Int) == 10) = false := beq_eq_false_iff_ne.2 (by omega)
      have z7 : (((s[t]'hlt).toNat : Int) == 13) = true := beq_iff_eq.2 (by omega)
      have H13 := Lib.hid h13; clear h13
      by_cases hl2 : t1 < s.size
      · have hb2 := (s[t1]'hl2).toNat_lt
        by_cases h10 : (s[t1]'hl2).toNat = 10
        · have z10 : (((s[t1]'hl2).toNat : Int) == 10) = true := beq_iff_eq.2 (by omega)
          have H10 := Lib.hid h10; clear h10
          refine ⟨t1 + 1, ⟨by omega, by omega⟩, ?_⟩
          intro R w hR
          have c0 := hR.c0; have c1 := hR.c1; have hf := hR.fr
          go_enter Tryz.func87, Tryz.ntmps87
          go_wp2_with fail
          go_quiet (fail)
          have hR1 := hR.drewN nq
          have hK1 := (Kept.refl [R] w).drewN nq
          generalize w.drewN nq = w1 at hR1 hK1 ⊢
          clear c0 c1 hf hR
          have c0 := hR1.c0; have c1 := hR1.c1; have hf := hR1.fr
          go_wp2_with fail
          go_quiet (fail)
          have hR2 := hR1.drewN nq
          have hK2 := hK1.drewN nq
          generalize w1.drewN nq = w2 at hR2 hK2 ⊢
          clear c0 c1 hf hR1 hK1
          have c0 := hR2.c0; have c1 := hR2.c1; have hf := hR2.fr
          go_wp2_with fail
          obtain ⟨W, hW⟩ : ∃ W, W = (w2.setCell ⟨R, 1, none⟩ (.int .i64 ((t : Int) + 1))) := ⟨_, rfl⟩
          have hR1 : RdB W R s t1 0 := by rw [hW, HT1.out]; exact hR2.setAt' _ _ (by omega)
          have hK1 : Kept [R] w W := by rw [hW]; exact hK2.set1 1 _
          rw [← hW]
          clear hW c0 c1 hR2 hK2 hf
          have c0 := hR1.c0; have c1 := hR1.c1; have hf := hR1.fr
          go_quiet (fail)
          go_wp2_with fail
          go_ret2
          exact ⟨⟨_, _, by omega, by omega, rfl⟩, (hR1.drewN _).setAt (t1 + 1), (hK1.drewN _).set1 1 _⟩
        · have z10 : (((s[t1]'hl2).toNat : Int) == 10) = false := beq_eq_false_iff_ne.2 (by omega)
          clear h10
          refine ⟨t1, ⟨by omega, by omega⟩, ?_⟩
          intro R w hR
          have c0 := hR.c0; have c1 := hR.c1; have hf := hR.fr
          go_enter Tryz.func87, Tryz.ntmps87
          go_wp2_with fail
          go_quiet (fail)
          have hR1 := hR.drewN nq
          have hK1 := (Kept.refl [R] w).drewN nq
          generalize w.drewN nq = w1 at hR1 hK1 ⊢
          clear c0 c1 hf hR
          have c0 := hR1.c0; have c1 := hR1.c1; have hf := hR1.fr
          go_wp2_with fail
          go_quiet (fail)
          have hR2 := hR1.drewN nq
          have hK2 := hK1.drewN nq
          generalize w1.drewN nq = w2 at hR2 hK2 ⊢
          clear c0 c1 hf hR1 hK1
          have c0 := hR2.c0; have c1 := hR2.c1; have hf := hR2.fr
          go_wp2_with fail
          obtain ⟨W, hW⟩ : ∃ W, W = (w2.setCell ⟨R, 1, none⟩ (.int .i64 ((t : Int) + 1))) := ⟨_, rfl⟩
          have hR1 : RdB W R s t1 0 := by rw [hW, HT1.out]; exact hR2.setAt' _ _ (by omega)
          have hK1 : Kept [R] w W := by rw [hW]; exact hK2.set1 1 _
          rw [← hW]
          clear hW c0 c1 hR2 hK2 hf
          have c0 := hR1.c0; have c1 := hR1.c1; have hf := hR1.fr
          go_quiet (fail)
          go_wp2_with fail
          go_ret2
          exact ⟨⟨_, _, by omega, by omega, rfl⟩, hR1.drewN _, hK1.drewN _⟩
      · refine ⟨t1, ⟨by omega, by omega⟩, ?_⟩
        intro R w hR
        have c0 := hR.c0; have c1 := hR.c1; have hf := hR.fr
        go_enter Tryz.func87, Tryz.ntmps87
        go_wp2_with fail
        go_quiet (fail)
        have hR1 := hR.drewN nq
        have hK1 := (Kept.refl [R] w).drewN nq
        generalize w.drewN nq = w1 at hR1 hK1 ⊢
        clear c0 c1 hf hR
        have c0 := hR1.c0; have c1 := hR1.c1; have hf := hR1.fr
        go_wp2_with fail
        go_quiet (fail)
        have hR2 := hR1.drewN nq
        have hK2 := hK1.drewN nq
        generalize w1.drewN nq = w2 at hR2 hK2 ⊢
        clear c0 c1 hf hR1 hK1
        have c0 := hR2.c0; have c1 := hR2.c1; have hf := hR2.fr
        go_wp2_with fail
        obtain ⟨W, hW⟩ : ∃ W, W = (w2.setCell ⟨R, 1, none⟩ (.int .i64 ((t : Int) + 1))) := ⟨_, rfl⟩
        have hR1 : RdB W R s t1 0 := by rw [hW, HT1.out]; exact hR2.setAt' _ _ (by omega)
        have hK1 : Kept [R] w W := by rw [hW]; exact hK2.set1 1 _
        rw [← hW]
        clear hW c0 c1 hR2 hK2 hf
        have c0 := hR1.c0; have c1 := hR1.c1; have hf := hR1.fr
        go_quiet (fail)
        go_wp2_with fail
        go_ret2
        exact ⟨⟨_, _, by omega, by omega, rfl⟩, hR1.drewN _, hK1.drewN _⟩
    · have z13 : (((s[t]'hlt).toNat : Int) == 13) = false := beq_eq_false_iff_ne.2 (by omega)
      have H13 := Lib.hid h13; clear h13
      by_cases hoc : 48 ≤ (s[t]'hlt).toNat ∧ (s[t]'hlt).toNat ≤ 55
      · obtain ⟨o1, o2⟩ := hoc
        have z1 : (((s[t]'hlt).toNat : Int) == 110) = false := beq_eq_false_iff_ne.2 (by omega)
        have z2 : (((s[t]'hlt).toNat : Int) == 114) = false := beq_eq_false_iff_ne.2 (by omega)
        have z3 : (((s[t]'hlt).toNat : Int) == 116) = false := beq_eq_false_iff_ne.2 (by omega)
        have z4 : (((s[t]'hlt).toNat : Int) == 98) = false := beq_eq_false_iff_ne.2 (by omega)
        have z5 : (((s[t]'hlt).toNat : Int) == 102) = false := beq_eq_false_iff_ne.2 (by omega)
        have z6 : (((s[t]'hlt).toNat : Int) == 10) = false := beq_eq_false_iff_ne.2 (by omega)
        obtain ⟨⟨T, n9⟩, hT, hT1, hT2⟩ := oc_ends s t1 ht2
        have HT0 := Lib.hid hT; clear hT
        refine ⟨T, ⟨by dsimp only at hT1; omega, hT2⟩, ?_⟩
        intro R w hR
        have c0 := hR.c0; have c1 := hR.c1; have hf := hR.fr
        go_enter Tryz.func87, Tryz.ntmps87
        go_wp2_with fail
        go_quiet (fail)
        have hR1 := hR.drewN nq
        have hK1 := (Kept.refl [R] w).drewN nq
        generalize w.drewN nq = w1 at hR1 hK1 ⊢
        clear c0 c1 hf hR
        have c0 := hR1.c0; have c1 := hR1.c1; have hf := hR1.fr
        go_wp2_with fail
        go_quiet (fail)
        have hR2 := hR1.drewN nq
        have hK2 := hK1.drewN nq
        generalize w1.drewN nq = w2 at hR2 hK2 ⊢
        clear c0 c1 hf hR1 hK1
        have c0 := hR2.c0; have c1 := hR2.c1; have hf := hR2.fr
        go_wp2_with fail
        obtain ⟨W, hW⟩ : ∃ W, W = (w2.setCell ⟨R, 1, none⟩ (.int .i64 ((t : Int) + 1))) := ⟨_, rfl⟩
        have hR1 : RdB W R s t1 0 := by rw [hW, HT1.out]; exact hR2.setAt' _ _ (by omega)
        have hK1 : Kept [R] w W := by rw [hW]; exact hK2.set1 1 _
        rw [← hW]
        clear hW c0 c1 hR2 hK2 hf
        have c0 := hR1.c0; have c1 := hR1.c1; have hf := hR1.fr
        go_loopw [5, 6] (fun vo vn wr => ∃ (o n : Int) (t' : Nat), vo = .int .i64 o ∧ vn = .int .i64 n ∧ 1 ≤ n ∧ n ≤ 3 ∧ 0 ≤ o ∧ (n = 1 → o ≤ 7) ∧ (n = 2 → o ≤ 63) ∧ o ≤ 511 ∧ t ≤ t' ∧ t' ≤ s.size ∧ Tr (ocF s) (t', n) (T, n9) ∧ RdB wr R s t' 0 ∧ Kept [R] w wr) (fun _ _ wr => s.size - (intOf ((wr.cell? ⟨R, 1, none⟩).getD default)).toNat)
        case atStart => exact ⟨_, 1, t1, rfl, rfl, by omega, by omega, by omega, fun _ => by omega, fun h => by omega, by omega, ht3, ht2, HT0.out, hR1, hK1⟩
        case round =>
          clear c0 c1 hf hR1 hK1
          obtain ⟨o, n, t', rfl, rfl, n1, n2, o1, o2, o3, o4, ht5, ht6, hT, hR1, hK1⟩ := hrel
          have HT := Lib.hid hT; clear hT
          have c0 := hR1.c0; have c1 := hR1.c1; have hf := hR1.fr
          by_cases hl2 : t' < s.size
          · have hb2 := (s[t']'hl2).toNat_lt
            have hbx : btx s t' = (s[t']'hl2).toNat := btx_at hl2
            have HBX := Lib.hid hbx; clear hbx
            by_cases h3 : n < 3
            · by_cases h48 : 48 ≤ (s[t']'hl2).toNat
              · have z48 : decide ((48 : Int) ≤ ((s[t']'hl2).toNat : Int)) = true := by simp; omega
                by_cases h55 : (s[t']'hl2).toNat ≤ 55
                · have z55 : decide (((s[t']'hl2).toNat : Int) ≤ 55) = true := by simp; omega
                  have hn := HT.out.next (show ocF s (t', n) = some (t' + 1, n + 1) from if_pos ⟨hl2, h3, by rw [HBX.out]; exact h48, by rw [HBX.out]; exact h55⟩)
                  have HN := Lib.hid hn; clear hn
                  go_wp2_with fail
                  go_quiet (fail)
                  go_wp2_with fail
                  go_quiet (fail)
                  go_wp2_with fail
                  refine ⟨⟨8 * o + (((s[t']'hl2).toNat : Int) - 48), n + 1, t' + 1, rfl, rfl, by omega, by omega, by omega, by omega, by omega, by omega, by omega, by omega, HN.out, (hR1.drewN _).setAt (t' + 1), (hK1.drewN _).set1 1 _⟩, ?_⟩
                  rw [((hR1.drewN _).setAt' (t' + 1) ((t' : Int) + 1) (by omega)).c1, c1]
                  simp [intOf]; omega
                · have z55 : decide (((s[t']'hl2).toNat : Int) ≤ 55) = false := by simp; omega
                  have hte := HT.out.last (show ocF s (t', n) = none from if_neg fun h => by rw [HBX.out] at h; exact h55 h.2.2.2)
                  obtain ⟨rfl, rfl⟩ : t' = T ∧ n = n9 := by cases hte; exact ⟨rfl, rfl⟩
                  clear hte HT
                  go_wp2_with fail
                  go_quiet (fail)
                  go_wp2_with fail
                  go_ret2
                  exact ⟨⟨_, _, (wrap8 _).1, (wrap8 _).2, rfl⟩, hR1.drewN _, hK1.drewN _⟩
              · have z48 : decide ((48 : Int) ≤ ((s[t']'hl2).toNat : Int)) = false := by simp; omega
                have hte := HT.out.last (show ocF s (t', n) = none from if_neg fun h => by rw [HBX.out] at h; exact h48 h.2.2.1)
                obtain ⟨rfl, rfl⟩ : t' = T ∧ n = n9 := by cases hte; exact ⟨rfl, rfl⟩
                clear hte HT
                go_wp2_with fail
                go_quiet (fail)
                go_wp2_with fail
                go_ret2
                exact ⟨⟨_, _, (wrap8 _).1, (wrap8 _).2, rfl⟩, hR1.drewN _, hK1.drewN _⟩
            · have z3 : decide (n < 3) = false := by simp; omega
              have hte := HT.out.last (show ocF s (t', n) = none from if_neg fun h => h3 h.2.1)
              obtain ⟨rfl, rfl⟩ : t' = T ∧ n = n9 := by cases hte; exact ⟨rfl, rfl⟩
              clear hte HT
              go_wp2_with fail
              go_quiet (fail)
              go_wp2_with fail
              go_ret2
              exact ⟨⟨_, _, (wrap8 _).1, (wrap8 _).2, rfl⟩, hR1.drewN _, hK1.drewN _⟩
          · have hte := HT.out.last (show ocF s (t', n) = none from if_neg fun h => hl2 h.1)
            obtain ⟨rfl, rfl⟩ : t' = T ∧ n = n9 := by cases hte; exact ⟨rfl, rfl⟩
            clear hte HT
            go_wp2_with fail
            go_quiet (fail)
            go_wp2_with fail
            go_ret2
            exact ⟨⟨_, _, (wrap8 _).1, (wrap8 _).2, rfl⟩, hR1.drewN _, hK1.drewN _⟩
      · have hno : (s[t]'hlt).toNat < 48 ∨ 55 < (s[t]'hlt).toNat := by omega
        clear hoc
        refine ⟨t + 1, ⟨by omega, by omega⟩, ?_⟩
        rcases hno with hno | hno
        all_goals
          intro R w hR
          have c0 := hR.c0; have c1 := hR.c1; have hf := hR.fr
          go_enter Tryz.func87, Tryz.ntmps87
          go_wp2_with fail
          go_quiet (fail)
          have hR1 := hR.drewN nq
          have hK1 := (Kept.refl [R] w).drewN nq
          generalize w.drewN nq = w1 at hR1 hK1 ⊢
          clear c0 c1 hf hR
          have c0 := hR1.c0; have c1 := hR1.c1; have hf := hR1.fr
          go_wp2_with fail
          go_quiet (fail)
          have hR2 := hR1.drewN nq
          have hK2 := hK1.drewN nq
          generalize w1.drewN nq = w2 at hR2 hK2 ⊢
          clear c0 c1 hf hR1 hK1
          have c0 := hR2.c0; have c1 := hR2.c1; have hf := hR2.fr
          go_wp2_with fail
          all_goals first
            | (exfalso; omega)
            | (go_ret2; exact ⟨⟨_, _, by omega, by omega, rfl⟩, hR2.setAt (t + 1), hK2.set1 1 _⟩)
  · refine ⟨t, ⟨by omega, by omega⟩, fun R w hR => ?_⟩
    have c0 := hR.c0; have c1 := hR.c1; have hf := hR.fr
    go_enter Tryz.func87, Tryz.ntmps87
    go_wp2_with fail
    go_quiet (fail)
    go_wp2_with fail
    go_ret2
    exact ⟨⟨_, _, by omega, by omega, rfl⟩, hR.drewN _, (Kept.refl _ _).drewN _⟩
end Go.Proofs.YtfkecmlmnhbmoaaGreatDoor
namespace Go.Proofs.YtfkecmlmnhbmoaaGreatDoor
open Go.RowKit
/-- Where an escape ends. -/
noncomputable def escP (s : ByteArray) (t : Nat) : Nat := if h : t ≤ s.size ∧ s.size ≤ 140737488355000 then Classical.choose (escapeF s t h.1 h.2) else t
theorem escP_is {s : ByteArray} {t : Nat} (h : t ≤ s.size) (hs : s.size ≤ 140737488355000) : (t ≤ escP s t ∧ escP s t ≤ s.size) ∧ EscB s t (escP s t) := by
  unfold escP
  rw [dif_pos ⟨h, hs⟩]
  exact Classical.choose_spec (escapeF s t h hs)
open Classical in
/-- A step of reading a literal string: the place, and the parentheses that are open. -/
noncomputable def liF (s : ByteArray) (q : Nat × Int) : Option (Nat × Int) :=
  if q.1 < s.size then
    (if btx s q.1 = 40 then some (q.1 + 1, q.2 + 1) else
     if btx s q.1 = 41 then (if q.2 = 1 then none else some (q.1 + 1, q.2 - 1)) else
     if btx s q.1 = 13 then (if q.1 + 1 < s.size ∧ btx s (q.1 + 1) = 10 then some (q.1 + 1 + 1, q.2) else some (q.1 + 1, q.2)) else
     if btx s q.1 = 92 then some (escP s (q.1 + 1), q.2) else some (q.1 + 1, q.2)) else none
theorem li_ends (s : ByteArray) (hs : s.size ≤ 140737488355000) : ∃ T, Tr (liF s) (0, 0) T := by
  obtain ⟨T, h1, _⟩ := Tr.ends (f := liF s) (fun q => s.size - q.1) (fun q => q.1 ≤ s.size) (fun a b h e => by
    unfold liF at e
    split at e
    · split at e
      · cases e; dsimp only; omega
      · split at e
        · split at e
          · cases e
          · cases e; dsimp only; omega
        · split at e
          · split at e
            · cases e; dsimp only; omega
            · cases e; dsimp only; omega
          · split at e
            · cases e
              have := (escP_is (s := s) (t := a.1 + 1) (by omega) hs).1
              dsimp only; omega
            · cases e; dsimp only; omega
    · cases e) _ (0, 0) (Nat.le_refl _) (Nat.zero_le _)
  exact ⟨T, h1⟩
def liT (s : ByteArray) (T : Nat × Int) : Nat := if T.1 < s.size then T.1 + 1 else T.1
def liB (s : ByteArray) (T : Nat × Int) : Int := if T.1 < s.size then 0 else 1
def LitB (s : ByteArray) (R : Nat) (T : Nat × Int) (a0 : World) (vo vn : Value) (wr : World) : Prop := ∃ (t : Nat) (bs : List Int) (op : Int), vn = .int .i64 op ∧ t ≤ s.size ∧ ((t = 0 ∧ bs = [] ∧ op = 0) ∨ bs.length + 1 ≤ t) ∧ -(t : Int) ≤ op ∧ op ≤ t ∧ Own a0 wr vo bs ∧ RdB wr R s t 0 ∧ Tr (liF s) (t, op) T
set_option maxRecDepth 100000 in
set_option maxHeartbeats 8000000 in
theorem rlitF (s : ByteArray) (hs1 : 2 ≤ s.size) (hs : s.size ≤ 140737488354000) (hf0 : (s[0]'(by omega)).toNat = 40) : ∃ (tE : Nat) (bE : Int), ∀ (R : Nat) (a0 w : World), RdB w R s 0 0 → Kept [] a0 w → a0.heap.size ≤ R →
    Calls Tryz.prog 69 #[.pointer (some ⟨R, 0, none⟩)] w fun e w' => LitR s e ∧ Kept [] a0 w' ∧ RdB w' R s tE bE := by
  obtain ⟨T, hT⟩ := li_ends s (by omega)
  refine ⟨liT s T, liB s T, fun R a0 w hR hA h0 => ?_⟩
  have HT0 := Lib.hid hT; clear hT
  have HF0 := Lib.hid hf0; clear hf0
  have hs9 : s.size ≤ 140737488355000 := by omega
  go_enter Tryz.func69, Tryz.ntmps69
  go_wp2_with fail
  go_loopw [3, 4] (LitB s R T a0) (fun _ _ wr => s.size - (intOf ((wr.cell? ⟨R, 1, none⟩).getD default)).toNat)
  case atStart => exact ⟨0, [], 0, rfl, by omega, .inl ⟨rfl, rfl, rfl⟩, by omega, by omega, own_nil hA, hR, HT0.out⟩
  case round =>
    clear hR hA
    obtain ⟨t, bs, op, rfl, ht, hbs, ho1, ho2, hO, hRr, hT⟩ := hrel
    have HT := Lib.hid hT; clear hT
    have c0 := hRr.c0; have c1 := hRr.c1; have hf := hRr.fr
    by_cases hlt : t < s.size
    · have hb := (s[t]'hlt).toNat_lt
      have hbx : btx s t = (s[t]'hlt).toNat := btx_at hlt
      have HBX := Lib.hid hbx; clear hbx
      have HB := Lib.hid hbs; clear hbs
      go_wp2_with fail
      go_quiet (fail)
      have hR1 := hRr.drewN nq
      have hK1 := (Kept.refl [R] wr).drewN nq
      generalize wr.drewN nq = w1 at hR1 hK1 ⊢
      clear c0 c1 hf
      have c0 := hR1.c0; have c1 := hR1.c1; have hf := hR1.fr
      go_wp2_with fail
      go_quiet (fail)
      have hR2 := hR1.drewN nq
      have hK2 := hK1.drewN nq
      generalize w1.drewN nq = w2 at hR2 hK2 ⊢
      clear c0 c1 hf hR1 hK1
      have c0 := hR2.c0; have c1 := hR2.c1; have hf := hR2.fr
      have hR3 := hR2.setAt' (t + 1) ((t : Int) + 1) (by omega)
      have hO3 := (hO.rdr hK2 hRr.r h0).rdr ((Kept.refl [R] w2).set1 1 (.int .i64 ((t : Int) + 1))) hR2.r h0
      by_cases h0t : t = 0
      · have z40 : (((s[t]'hlt).toNat : Int) == 40) = true := by have := HF0.out; subst h0t; exact beq_iff_eq.2 (by omega)
        have hbn : bs = [] ∧ op = 0 := by rcases HB.out with ⟨_, h1, h2⟩ | h; exact ⟨h1, h2⟩; omega
        obtain ⟨rfl, rfl⟩ := hbn
        have hn := HT.out.next (show liF s (t, 0) = some (t + 1, 1) by unfold liF; dsimp only; rw [if_pos hlt, if_pos (by rw [HBX.out]; have := HF0.out; subst h0t; exact this)]; rfl)
        have HN := Lib.hid hn; clear hn
        have HTT := Lib.hid h0t; clear h0t
        go_wp2_with fail
        exact ⟨⟨t + 1, [], 1, rfl, by omega, .inr (by simp), by omega, by omega, hO3, hR3, HN.out⟩, rdr_meas hR3.r hRr.r (by omega) (by omega)⟩
      · have hbl : bs.length + 1 ≤ t := by rcases HB.out with ⟨h, _⟩ | h; omega; exact h
        by_cases h40 : (s[t]'hlt).toNat = 40
        · have z40 : (((s[t]'hlt).toNat : Int) == 40) = true := beq_iff_eq.2 (by omega)
          have hn := HT.out.next (show liF s (t, op) = some (t + 1, op + 1) by unfold liF; dsimp only; rw [if_pos hlt, if_pos (by rw [HBX.out]; exact h40)])
          have HN := Lib.hid hn
          have H40 := Lib.hid h40; clear h40 hn
          by_cases hop : op = 0
          · subst hop
            go_wp2_with fail
            exact ⟨⟨t + 1, bs, 1, rfl, by omega, .inr (by omega), by omega, by omega, hO3, hR3, HN.out⟩, rdr_meas hR3.r hRr.r (by omega) (by omega)⟩
          · have zop : (op + 1 == 1) = false := beq_eq_false_iff_ne.2 (by omega)
            go_wp2_with (at_builtin; go_must (refine appB2 rfl _ _ rfl hO3 rfl rfl (by simp) (by omega) ?_; intro v2 w9 hO2 hk2))
            have hR9 := hR3.keep hk2
            exact ⟨⟨t+1, _, op+1, rfl, by omega, .inr (by simp; omega), by omega, by omega, hO2, hR9, HN.out⟩, rdr_meas hR9.r hRr.r (by omega) (by omega)⟩
        · have z40 : (((s[t]'hlt).toNat : Int) == 40) = false := beq_eq_false_iff_ne.2 (by omega)
          have h40' : ¬ btx s t = 40 := by rw [HBX.out]; exact h40
          by_cases h41 : (s[t]'hlt).toNat = 41
          · have z41 : (((s[t]'hlt).toNat : Int) == 41) = true := beq_iff_eq.2 (by omega)
            have h41' : btx s t = 41 := by rw [HBX.out]; exact h41
            by_cases hop : op = 1
            · subst hop
              have hte := HT.out.last (show liF s (t, 1) = none by unfold liF; dsimp only; rw [if_pos hlt, if_neg h40', if_pos h41', if_pos rfl])
              have H41 := Lib.hid h41; clear h41 h41' h40'
              have e1 : liT s T = t + 1 := by rw [hte]; exact if_pos hlt
              have e2 : liB s T = 0 := by rw [hte]; exact if_pos hlt
              have E1 := Lib.hid e1; have E2 := Lib.hid e2; clear e1 e2 hte
              have hcv := conv_own hO3
              go_wp2_with fail
              go_ret
              exact ⟨⟨_, rfl, by rw [strOfNums_size]; omega⟩, hO3.kept, by rw [E1.out, E2.out]; exact hR3⟩
            · have zop : (op - 1 == 0) = false := beq_eq_false_iff_ne.2 (by omega)
              have hn := HT.out.next (show liF s (t, op) = some (t + 1, op - 1) by unfold liF; dsimp only; rw [if_pos hlt, if_neg h40', if_pos h41', if_neg hop])
              have HN := Lib.hid hn
              have H41 := Lib.hid h41; clear h41 h41' h40' hn
              go_wp2_with (at_builtin; go_must (refine appB2 rfl _ _ rfl hO3 rfl rfl (by simp) (by omega) ?_; intro v2 w9 hO2 hk2))
              have hR9 := hR3.keep hk2
              exact ⟨⟨t+1, _, op-1, rfl, by omega, .inr (by simp; omega), by omega, by omega, hO2, hR9, HN.out⟩, rdr_meas hR9.r hRr.r (by omega) (by omega)⟩
          · have z41 : (((s[t]'hlt).toNat : Int) == 41) = false := beq_eq_false_iff_ne.2 (by omega)
            have h41' : ¬ btx s t = 41 := by rw [HBX.out]; exact h41
            by_cases h13 : (s[t]'hlt).toNat = 13
            · have z13 : (((s[t]'hlt).toNat : Int) == 13) = true := beq_iff_eq.2 (by omega)
              have h13' : btx s t = 13 := by rw [HBX.out]; exact h13
              have hst : ∀ b : Bool, (b = true ↔ (t + 1 < s.size ∧ btx s (t + 1) = 10)) → liF s (t, op) = some (if b then t + 1 + 1 else t + 1, op) := fun b hb => by
                unfold liF; dsimp only; rw [if_pos hlt, if_neg h40', if_neg h41', if_pos h13']
                cases b
                · rw [if_neg (fun h => by have := hb.2 h; cases this)]; rfl
                · rw [if_pos (hb.1 rfl)]; rfl
              have HST := Lib.hid hst
              have H13 := Lib.hid h13; clear h13 h13' h41' h40' hst
              go_wp2_with fail
              obtain ⟨W, hW⟩ : ∃ W, W = w2.setCell ⟨R, 1, none⟩ (.int .i64 ((t : Int) + 1)) := ⟨_, rfl⟩
              obtain ⟨t1, ht1⟩ : ∃ t1, t1 = t + 1 := ⟨_, rfl⟩
              rw [← hW] at hR3 hO3 ⊢
              rw [← ht1] at hR3 HST
              have ht2 : t1 ≤ s.size := by omega
              have ht3 : t < t1 := by omega
              have ht4 : t1 ≤ t + 1 := by omega
              clear hW ht1 c0 c1 hf hR2 hK2
              have c0 := hR3.c0; have c1 := hR3.c1; have hf := hR3.fr
              by_cases hl2 : t1 < s.size
              · have hb2 := (s[t1]'hl2).toNat_lt
                have hbx2 : btx s t1 = (s[t1]'hl2).toNat := btx_at hl2
                by_cases h10 : (s[t1]'hl2).toNat = 10
                · have z10 : (((s[t1]'hl2).toNat : Int) == 10) = true := beq_iff_eq.2 (by omega)
                  have HN := Lib.hid (HT.out.next (HST.out true ⟨fun _ => ⟨hl2, by rw [hbx2]; exact h10⟩, fun _ => rfl⟩))
                  have H10 := Lib.hid h10; clear h10 hbx2
                  go_quiet (fail)
                  have hR4 := hR3.drewN nq
                  have hO4 := hO3.drewN nq
                  generalize W.drewN nq = w4 at hR4 hO4 ⊢
                  clear c0 c1 hf hR3 hO3
                  have c0 := hR4.c0; have c1 := hR4.c1; have hf := hR4.fr
                  have hR5 := hR4.setAt' (t1 + 1) ((t1 : Int) + 1) (by omega)
                  have hO5 := hO4.rdr ((Kept.refl [R] w4).set1 1 (.int .i64 ((t1 : Int) + 1))) hR4.r h0
                  go_wp2_with (at_builtin; go_must (refine appB2 rfl _ _ rfl hO5 rfl rfl (by simp) (by omega) ?_; intro v2 w9 hO2 hk2))
                  have hR9 := hR5.keep hk2
                  exact ⟨⟨t1+1, _, op, rfl, by omega, .inr (by simp; omega), by omega, by omega, hO2, hR9, HN.out⟩, rdr_meas hR9.r hRr.r (by omega) (by omega)⟩
                · have z10 : (((s[t1]'hl2).toNat : Int) == 10) = false := beq_eq_false_iff_ne.2 (by omega)
                  have HN := Lib.hid (HT.out.next (HST.out false ⟨(fun h => by cases h), fun h => by rw [hbx2] at h; exact absurd h.2 h10⟩))
                  clear hbx2 h10
                  go_quiet (fail)
                  have hR4 := hR3.drewN nq
                  have hO4 := hO3.drewN nq
                  go_wp2_with (at_builtin; go_must (refine appB2 rfl _ _ rfl hO4 rfl rfl (by simp) (by omega) ?_; intro v2 w9 hO2 hk2))
                  have hR9 := hR4.keep hk2
                  exact ⟨⟨t1, _, op, rfl, by omega, .inr (by simp; omega), by omega, by omega, hO2, hR9, HN.out⟩, rdr_meas hR9.r hRr.r (by omega) (by omega)⟩
              · have HN := Lib.hid (HT.out.next (HST.out false ⟨(fun h => by cases h), fun h => absurd h.1 hl2⟩))
                go_quiet (fail)
                have hR4 := hR3.drewN nq
                have hO4 := hO3.drewN nq
                go_wp2_with (at_builtin; go_must (refine appB2 rfl _ _ rfl hO4 rfl rfl (by simp) (by omega) ?_; intro v2 w9 hO2 hk2))
                have hR9 := hR4.keep hk2
                exact ⟨⟨t1, _, op, rfl, by omega, .inr (by simp; omega), by omega, by omega, hO2, hR9, HN.out⟩, rdr_meas hR9.r hRr.r (by omega) (by omega)⟩
            · have z13 : (((s[t]'hlt).toNat : Int) == 13) = false := beq_eq_false_iff_ne.2 (by omega)
              have h13' : ¬ btx s t = 13 := by rw [HBX.out]; exact h13
              by_cases h92 : (s[t]'hlt).toNat = 92
              · have z92 : (((s[t]'hlt).toNat : Int) == 92) = true := beq_iff_eq.2 (by omega)
                have h92' : btx s t = 92 := by rw [HBX.out]; exact h92
                have HN := Lib.hid (HT.out.next (show liF s (t, op) = some (escP s (t + 1), op) by unfold liF; dsimp only; rw [if_pos hlt, if_neg h40', if_neg h41', if_neg h13', if_pos h92']))
                obtain ⟨⟨a1, a2⟩, hE⟩ := escP_is (s := s) (t := t + 1) (by omega) hs9
                have HE := Lib.hid hE
                clear h40' h41' h13' h92' hE
                generalize escP s (t + 1) = t4 at a1 a2 HE HN
                have H92 := Lib.hid h92; clear h92
                go_wp2_with fail
                refine (HE.out R _ hR3).mono ?_
                rintro e w4 ⟨⟨x, b, x1, x2, rfl⟩, hR4, hK4⟩
                have hO4 := hO3.rdr hK4 hR3.r h0
                clear c0 c1 hf hR3 hO3 hR2 hK2 hK4
                cases b
                · go_wp2_with fail
                  exact ⟨⟨t4, bs, op, rfl, by omega, .inr (by omega), by omega, by omega, hO4, hR4, HN.out⟩, rdr_meas hR4.r hRr.r (by omega) (by omega)⟩
                · skip
                  go_wp2_with (at_builtin; go_must (refine appB2 rfl _ _ rfl hO4 rfl rfl (by simp) (by omega) ?_; intro v2 w9 hO2 hk2))
                  have hR9 := hR4.keep hk2
                  exact ⟨⟨t4, _, op, rfl, by omega, .inr (by simp; omega), by omega, by omega, hO2, hR9, HN.out⟩, rdr_meas hR9.r hRr.r (by omega) (by omega)⟩
              · have z92 : (((s[t]'hlt).toNat : Int) == 92) = false := beq_eq_false_iff_ne.2 (by omega)
                have HN := Lib.hid (HT.out.next (show liF s (t, op) = some (t + 1, op) by unfold liF; dsimp only; rw [if_pos hlt, if_neg h40', if_neg h41', if_neg h13', if_neg (by rw [HBX.out]; exact h92)]))
                clear h40' h41' h13'
                go_wp2_with (at_builtin; go_must (refine appB2 rfl _ _ rfl hO3 rfl rfl (by simp) (by omega) ?_; intro v2 w9 hO2 hk2))
                have hR9 := hR3.keep hk2
                exact ⟨⟨t+1, _, op, rfl, by omega, .inr (by simp; omega), by omega, by omega, hO2, hR9, HN.out⟩, rdr_meas hR9.r hRr.r (by omega) (by omega)⟩
    · have hte := HT.out.last (show liF s (t, op) = none from if_neg hlt)
      have e1 : liT s T = t := by rw [hte]; exact if_neg hlt
      have e2 : liB s T = 1 := by rw [hte]; exact if_neg hlt
      have E1 := Lib.hid e1; have E2 := Lib.hid e2; clear e1 e2 hte
      obtain ⟨be, c5⟩ := hRr.r.cells.2.2.2.2.1
      go_wp2_with fail
      go_quiet (fail)
      have hR1 := hRr.drewN nq
      have hO1 := hO.drewN nq
      generalize wr.drewN nq = w1 at hR1 hO1 ⊢
      clear c0 c1 c5 hf
      obtain ⟨be, c5⟩ := hR1.r.cells.2.2.2.2.1
      have hf := hR1.fr
      go_wp2_with fail
      have hR2 := hR1.setEnds true
      have hO2 := hO1.rdr ((Kept.refl [R] w1).set1 5 (.bool true)) hR1.r h0
      refine (rfailB R s t 1 _ hR2).mono ?_
      rintro e w4 ⟨⟨v, rfl⟩, hR4, hK4⟩
      have hO4 := hO2.rdr hK4 hR2.r h0
      go_wp2_with fail
      go_ret
      exact ⟨⟨_, rfl, by show 0 + 2 ≤ s.size; omega⟩, hO4.kept, by rw [E1.out, E2.out]; exact hR4⟩
end Go.Proofs.YtfkecmlmnhbmoaaGreatDoor
namespace Go.Proofs.YtfkecmlmnhbmoaaGreatDoor
open Go.RowKit
open Classical in
noncomputable def heF (s : ByteArray) (t : Nat) : Option Nat := if t < s.size then (if btx s t = 62 then none else if wh (btx s t : Nat) = true then some (t + 1) else if hx (btx s t : Nat) < 0 then none else some (t + 1)) else none
theorem he_ends (s : ByteArray) : ∃ T, Tr (heF s) 1 T := by
  obtain ⟨T, h1, _⟩ := Tr.ends (f := heF s) (fun q => s.size - q) (fun _ => True) (fun a b h e => by
    unfold heF at e
    split at e
    · split at e
      · cases e
      · split at e
        · cases e; exact ⟨trivial, by omega⟩
        · split at e
          · cases e
          · cases e; exact ⟨trivial, by omega⟩
    · cases e) _ 1 (Nat.le_refl _) trivial
  exact ⟨T, h1⟩
open Classical in
noncomputable def heB (s : ByteArray) (T : Nat) : Int := if T < s.size then (if btx s T = 62 then 0 else 2) else 1
def HexB (s : ByteArray) (R T : Nat) (a0 : World) (vo vh vd : Value) (wr : World) : Prop := ∃ (t : Nat) (bs : List Int) (h : Int) (od : Bool), vh = .int .i64 h ∧ vd = .bool od ∧ -1 ≤ h ∧ h ≤ 15 ∧ t ≤ s.size ∧ bs.length + o1 od + 1 ≤ t ∧ Own a0 wr vo bs ∧ RdB wr R s t 0 ∧ Tr (heF s) t T
set_option maxRecDepth 100000 in
set_option maxHeartbeats 8000000 in
theorem rhexF (s : ByteArray) (hs1 : 2 ≤ s.size) (hs : s.size ≤ 140737488354000) : ∃ bE : Int, ∀ (R : Nat) (a0 w : World), RdB w R s 0 0 → Kept [] a0 w → a0.heap.size ≤ R →
    Calls Tryz.prog 71 #[.pointer (some ⟨R, 0, none⟩)] w fun e w' => LitR s e ∧ Kept [] a0 w' ∧ ∃ t, RdB w' R s t bE := by
  obtain ⟨T, hT⟩ := he_ends s
  refine ⟨heB s T, fun R a0 w hR hA h0 => ?_⟩
  have HT0 := Lib.hid hT; clear hT
  have c0 := hR.c0; have c1 := hR.c1; have hf := hR.fr
  have hR0 := hR.setAt' 1 1 rfl
  have hO0 := (own_nil hA).rdr ((Kept.refl [R] w).set1 1 (.int .i64 1)) hR.r h0
  go_enter Tryz.func71, Tryz.ntmps71
  go_wp2_with fail
  clear c0 c1 hf
  go_loopw [3, 4, 5] (HexB s R T a0) (fun _ _ _ wr => s.size - (intOf ((wr.cell? ⟨R, 1, none⟩).getD default)).toNat)
  case atStart => exact ⟨1, [], 0, false, rfl, rfl, by omega, by omega, by omega, by simp [o1], hO0, hR0, HT0.out⟩
  case round =>
    clear hR hA hR0 hO0
    obtain ⟨t, bs, h, od, rfl, rfl, hh1, hh2, ht, hbl, hO, hRr, hT⟩ := hrel
    have HT := Lib.hid hT; clear hT
    have c0 := hRr.c0; have c1 := hRr.c1; have hf := hRr.fr
    by_cases hlt : t < s.size
    · have hb := (s[t]'hlt).toNat_lt
      have hbx : btx s t = (s[t]'hlt).toNat := btx_at hlt
      have HBX := Lib.hid hbx; clear hbx
      go_wp2_with fail
      go_quiet (fail)
      have hR1 := hRr.drewN nq
      have hK1 := (Kept.refl [R] wr).drewN nq
      generalize wr.drewN nq = w1 at hR1 hK1 ⊢
      clear c0 c1 hf
      have c0 := hR1.c0; have c1 := hR1.c1; have hf := hR1.fr
      go_wp2_with fail
      go_quiet (fail)
      have hR2 := hR1.drewN nq
      have hK2 := hK1.drewN nq
      generalize w1.drewN nq = w2 at hR2 hK2 ⊢
      clear c0 c1 hf hR1 hK1
      have c0 := hR2.c0; have c1 := hR2.c1; have hf := hR2.fr
      have hR3 := hR2.setAt' (t + 1) ((t : Int) + 1) (by omega)
      have hO3 := (hO.rdr hK2 hRr.r h0).rdr ((Kept.refl [R] w2).set1 1 (.int .i64 ((t : Int) + 1))) hR2.r h0
      by_cases h62 : (s[t]'hlt).toNat = 62
      · have z62 : (((s[t]'hlt).toNat : Int) == 62) = true := beq_iff_eq.2 (by omega)
        have h62' : btx s t = 62 := by rw [HBX.out]; exact h62
        have hte := HT.out.last (show heF s t = none by unfold heF; rw [if_pos hlt, if_pos h62'])
        have e1 : heB s T = 0 := by rw [hte]; unfold heB; rw [if_pos hlt, if_pos h62']
        have E1 := Lib.hid e1
        have H62 := Lib.hid h62; clear h62 h62' hte e1
        cases od
        · have hcv := conv_own hO3
          go_wp2_with fail
          go_ret
          exact ⟨⟨_, rfl, by rw [strOfNums_size]; simp [o1] at hbl; omega⟩, hO3.kept, _, by rw [E1.out]; exact hR3⟩
        · go_wp2_with (at_builtin; go_must (refine appB2 rfl _ _ rfl hO3 rfl rfl (by simp) (by omega) ?_; intro v2 w9 hO2 hk2; have hcv := conv_own hO2))
          go_ret
          exact ⟨⟨_, rfl, by rw [strOfNums_size]; simp [o1] at hbl ⊢; omega⟩, hO2.kept, _, by rw [E1.out]; exact hR3.keep hk2⟩
      · have z62 : (((s[t]'hlt).toNat : Int) == 62) = false := beq_eq_false_iff_ne.2 (by omega)
        have h62' : ¬ btx s t = 62 := by rw [HBX.out]; exact h62
        have H62 := Lib.hid h62'; clear h62'
        go_wp2_with fail
        obtain ⟨W, hW⟩ : ∃ W, W = w2.setCell ⟨R, 1, none⟩ (.int .i64 ((t : Int) + 1)) := ⟨_, rfl⟩
        obtain ⟨t1, ht1⟩ : ∃ t1, t1 = t + 1 := ⟨_, rfl⟩
        have HT1 := Lib.hid ht1
        rw [← hW] at hR3 hO3 ⊢
        rw [← ht1] at hR3
        have ht2 : t1 ≤ s.size := by omega
        have ht3 : t < t1 := by omega
        have ht4 : t1 ≤ t + 1 := by omega
        clear hW ht1 c0 c1 hf hR2 hK2
        have hf := hR3.fr
        refine (whiteF _ _ (by omega) (by omega)).mono ?_
        rintro e w' ⟨rfl, rfl⟩
        cases hwh : wh ((s[t]'hlt).toNat : Int)
        · go_wp2_with fail
          refine (hexdF _ _ (by omega) (by omega)).mono ?_
          rintro e w' ⟨rfl, rfl⟩
          have hr1 := hx_rng ((s[t]'hlt).toNat : Int)
          obtain ⟨r1, r2⟩ := hr1
          obtain ⟨r, hrr⟩ : ∃ r, hx ((s[t]'hlt).toNat : Int) = r := ⟨_, rfl⟩
          rw [hrr] at r1 r2 ⊢
          have HRR := Lib.hid hrr; clear hrr
          have HWH := Lib.hid hwh; clear hwh
          by_cases hr : r < 0
          · have hte := HT.out.last (show heF s t = none by unfold heF; rw [if_pos hlt, if_neg H62.out, HBX.out, HWH.out, if_neg (by decide), HRR.out, if_pos hr])
            have e1 : heB s T = 2 := by rw [hte]; unfold heB; rw [if_pos hlt, if_neg H62.out]
            have E1 := Lib.hid e1
            clear hte e1
            go_wp2_with fail
            refine (rfailB R s t1 2 _ hR3).mono ?_
            rintro e w4 ⟨⟨v, rfl⟩, hR4, hK4⟩
            have hO4 := hO3.rdr hK4 hR3.r h0
            go_wp2_with fail
            go_ret
            exact ⟨⟨_, rfl, by show 0 + 2 ≤ s.size; omega⟩, hO4.kept, _, by rw [E1.out]; exact hR4⟩
          · have HN := Lib.hid (HT.out.next (show heF s t = some t1 by rw [HT1.out]; unfold heF; rw [if_pos hlt, if_neg H62.out, HBX.out, HWH.out, if_neg (by decide), HRR.out, if_neg hr]))
            cases od
            · go_wp2_with fail
              refine (hexdF _ _ (by omega) (by omega)).mono ?_
              rintro e w' ⟨rfl, rfl⟩
              rw [HRR.out]
              go_wp2_with fail
              exact ⟨⟨t1, bs, r, true, rfl, rfl, r1, r2, ht2, by simp [o1] at hbl ⊢; omega, hO3, hR3, HN.out⟩, rdr_meas hR3.r hRr.r (by omega) (by omega)⟩
            · go_wp2_with fail
              refine (hexdF _ _ (by omega) (by omega)).mono ?_
              rintro e w' ⟨rfl, rfl⟩
              rw [HRR.out]
              go_wp2_with (at_builtin; go_must (refine appB2 rfl _ _ rfl hO3 rfl rfl (by simp) (by omega) ?_; intro v2 w9 hO2 hk2))
              have hR9 := hR3.keep hk2
              exact ⟨⟨t1, _, h, false, rfl, rfl, hh1, hh2, ht2, by simp [o1] at hbl ⊢; omega, hO2, hR9, HN.out⟩, rdr_meas hR9.r hRr.r (by omega) (by omega)⟩
        · have HN := Lib.hid (HT.out.next (show heF s t = some t1 by rw [HT1.out]; unfold heF; rw [if_pos hlt, if_neg H62.out, HBX.out, hwh, if_pos rfl]))
          clear hwh
          obtain ⟨bo, c4⟩ := hR3.r.cells.2.2.2.1
          cases bo <;> cases od
          all_goals
            go_wp2_with fail
            exact ⟨⟨t1, bs, h, _, rfl, rfl, hh1, hh2, ht2, by simp [o1] at hbl ⊢; omega, hO3.rdr ((Kept.refl [R] W).set1 4 _) hR3.r h0, hR3.setOdd _, HN.out⟩, rdr_meas (hR3.setOdd _).r hRr.r (by omega) (by omega)⟩
    · have hte := HT.out.last (show heF s t = none from if_neg hlt)
      have e1 : heB s T = 1 := by rw [hte]; exact if_neg hlt
      have E1 := Lib.hid e1
      clear hte e1
      go_wp2_with fail
      go_quiet (fail)
      have hR1 := hRr.drewN nq
      have hO1 := hO.drewN nq
      generalize wr.drewN nq = w1 at hR1 hO1 ⊢
      clear c0 c1 hf
      go_wp2_with fail
      refine (rfailB R s t 1 _ hR1).mono ?_
      rintro e w4 ⟨⟨v, rfl⟩, hR4, hK4⟩
      have hO4 := hO1.rdr hK4 hR1.r h0
      go_wp2_with fail
      go_ret
      exact ⟨⟨_, rfl, by show 0 + 2 ≤ s.size; omega⟩, hO4.kept, _, by rw [E1.out]; exact hR4⟩
def SBB (s : ByteArray) (b : Bool) (e : Ending) : Prop := ∃ str : ByteArray, e = .returned (.tuple #[.string str, .bool b]) ∧ str.size ≤ s.size
def litFl (b : Int) (t n : Nat) : Bool := decide (b = 0 ∧ t = n)
def hexFl (T n : Nat) (b : Int) : Bool := decide (T = n) && (b == 0)
set_option maxRecDepth 100000 in
set_option maxHeartbeats 4000000 in
theorem litbF (s : ByteArray) (hs : s.size ≤ 140737488353000) : ∃ b : Bool, ∀ w, Calls Tryz.prog 43 #[.string s] w fun e w' => SBB s b e ∧ Kept [] w w' := by
  obtain ⟨q, hq⟩ : ∃ q, q = (⟨#[40]⟩ : ByteArray) ++ s ++ ⟨#[41]⟩ := ⟨_, rfl⟩
  have hqs : q.size = s.size + 2 := by rw [hq]; exact wrap_size _ _ _
  have hq2 : 2 ≤ q.size := by omega
  have hq0 : 0 < q.size := by omega
  have hqf : (q[0]'hq0).toNat = 40 := by
    subst hq
    rw [wrap_first]; rfl
  have hq1 : q.size ≤ 140737488353002 := by omega
  have hq3 : q.size ≤ s.size + 2 := by omega
  obtain ⟨tE, bE, hL⟩ := rlitF q hq2 (by omega) hqf
  refine ⟨litFl bE tE q.size, fun w => ?_⟩
  have HL := Lib.hid hL
  clear hqf hqs hL
  go_enter Tryz.func43, Tryz.ntmps43
  go_wp2_with fail
  rw [← hq]
  have hR0 : RdB (w.alloc (.cells #[.string q, .int .i64 0, .int .i64 0, .int .i64 0, .bool false, .bool false] 132)) w.heap.size q 0 0 := ⟨0, false, false, heap_at rfl⟩
  clear hq
  refine (HL.out w.heap.size w _ hR0 ((Kept.refl [] w).alloc _) (Nat.le_refl _)).mono ?_
  rintro e w1 ⟨⟨str, rfl, hsz⟩, hk, hR⟩
  have c0 := hR.c0; have c1 := hR.c1; have c2 := hR.c2
  clear hR0
  by_cases hbd : bE = 0
  · subst hbd
    by_cases hte : tE = q.size
    · have zt : ((tE : Int) == (q.size : Int)) = true := beq_iff_eq.2 (by omega)
      have hd : litFl 0 tE q.size = true := by unfold litFl; simp [hte]
      have HD := Lib.hid hd; clear hd hte
      go_wp2_with fail
      go_quiet (fail)
      go_wp2_with fail
      go_ret2
      exact ⟨⟨str, (by rw [HD.out]; first | done | rfl), by omega⟩, hk.drewN _⟩
    · have zt : ((tE : Int) == (q.size : Int)) = false := beq_eq_false_iff_ne.2 (by omega)
      have hd : litFl 0 tE q.size = false := by unfold litFl; simp [hte]
      have HD := Lib.hid hd; clear hd hte
      go_wp2_with fail
      go_quiet (fail)
      go_wp2_with fail
      go_ret2
      exact ⟨⟨str, (by rw [HD.out]; first | done | rfl), by omega⟩, hk.drewN _⟩
  · have zb : (bE == 0) = false := beq_eq_false_iff_ne.2 hbd
    have hd : litFl bE tE q.size = false := by unfold litFl; simp [hbd]
    have HD := Lib.hid hd; clear hd hbd
    go_wp2_with fail
    go_quiet (fail)
    go_wp2_with fail
    go_ret2
    exact ⟨⟨str, (by rw [HD.out]; first | done | rfl), by omega⟩, hk.drewN _⟩
def hbF (s : ByteArray) (k : Nat) : Option Nat := if k < s.size then (if hx (btx s k : Nat) < 0 then none else some (k + 1)) else none
theorem hb_ends (s : ByteArray) : ∃ T, Tr (hbF s) 0 T ∧ T ≤ s.size := by
  obtain ⟨T, h1, h2, _⟩ := Tr.ends (f := hbF s) (fun k => s.size - k) (fun k => k ≤ s.size) (fun a b h e => by
    unfold hbF at e
    split at e
    · split at e
      · cases e
      · cases e; omega
    · cases e) _ 0 (Nat.le_refl _) (Nat.zero_le _)
  exact ⟨T, h1, h2⟩
set_option maxRecDepth 100000 in
set_option maxHeartbeats 4000000 in
theorem hexbF (s : ByteArray) (hs : s.size ≤ 140737488353000) : ∃ b : Bool, ∀ w, Calls Tryz.prog 44 #[.string s] w fun e w' => SBB s b e ∧ Kept [] w w' := by
  obtain ⟨q, hq⟩ : ∃ q, q = (⟨#[60]⟩ : ByteArray) ++ s ++ ⟨#[62]⟩ := ⟨_, rfl⟩
  have hqs : q.size = s.size + 2 := by rw [hq]; exact wrap_size _ _ _
  have hq2 : 2 ≤ q.size := by omega
  have hq1 : q.size ≤ 140737488353002 := by omega
  have hq3 : q.size ≤ s.size + 2 := by omega
  obtain ⟨bE, hL⟩ := rhexF q hq2 (by omega)
  obtain ⟨T, hT, hTs⟩ := hb_ends s
  refine ⟨hexFl T s.size bE, fun w => ?_⟩
  have HL := Lib.hid hL; have HT0 := Lib.hid hT
  clear hqs hL hT
  go_enter Tryz.func44, Tryz.ntmps44
  go_wp2_with fail
  go_loop [9] (fun vi => ∃ k : Nat, k ≤ s.size ∧ vi = .int .i64 k ∧ Tr (hbF s) k T) (fun vi => s.size - (intOf vi).toNat)
  case atStart => exact ⟨0, by omega, rfl, HT0.out⟩
  case round =>
    obtain ⟨k, hk, rfl, hT⟩ := hrel
    have HT := Lib.hid hT; clear hT
    by_cases hlt : k < s.size
    · have hb := (s[k]'hlt).toNat_lt
      have hbx : btx s k = (s[k]'hlt).toNat := btx_at hlt
      have HBX := Lib.hid hbx; clear hbx
      go_wp2_with fail
      refine (hexdF _ _ (by omega) (by omega)).mono ?_
      rintro e w' ⟨rfl, rfl⟩
      obtain ⟨r, hrr⟩ : ∃ r, hx ((s[k]'hlt).toNat : Int) = r := ⟨_, rfl⟩
      rw [hrr]
      have HRR := Lib.hid hrr; clear hrr
      by_cases hr : r < 0
      · have hte := HT.out.last (show hbF s k = none by unfold hbF; rw [if_pos hlt, HBX.out, HRR.out, if_pos hr])
        have hd : hexFl T s.size bE = false := by unfold hexFl; rw [decide_eq_false (by omega), Bool.false_and]
        have HD := Lib.hid hd
        clear hte hd
        go_wp2_with fail
        go_ret2
        exact ⟨⟨⟨#[]⟩, (by rw [HD.out]; first | done | rfl), by show 0 ≤ s.size; omega⟩, Kept.refl _ _⟩
      · have HN := Lib.hid (HT.out.next (show hbF s k = some (k + 1) by unfold hbF; rw [if_pos hlt, HBX.out, HRR.out, if_neg hr]))
        go_wp2_with fail
        exact ⟨⟨k + 1, by omega, by go_num, HN.out⟩, by simp [intOf]; omega⟩
    · have hte := HT.out.last (show hbF s k = none from if_neg hlt)
      have hd : hexFl T s.size bE = (bE == 0) := by unfold hexFl; rw [decide_eq_true (by omega), Bool.true_and]
      have HD := Lib.hid hd
      clear hte hd
      go_wp2_with fail
      rw [← hq]
      have hR0 : RdB (w.alloc (.cells #[.string q, .int .i64 0, .int .i64 0, .int .i64 0, .bool false, .bool false] 132)) w.heap.size q 0 0 := ⟨0, false, false, heap_at rfl⟩
      clear hq
      refine (HL.out w.heap.size w _ hR0 ((Kept.refl [] w).alloc _) (Nat.le_refl _)).mono ?_
      rintro e w1 ⟨⟨str, rfl, hsz⟩, hk, t, hR⟩
      have c2 := hR.c2
      clear hR0
      go_wp2_with fail
      go_quiet (fail)
      go_wp2_with fail
      go_ret2
      exact ⟨⟨str, (by rw [HD.out]; first | done | rfl), by omega⟩, hk.drewN _⟩
end Go.Proofs.YtfkecmlmnhbmoaaGreatDoor
