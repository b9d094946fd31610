import Derived.Test.YtfkecmlmnhbmoaaGreatDoorFk09
import Derived.Laws.FloatArith
import Derived.Test.YtfkecmlmnhbmoaaGreatDoorFk07
namespace Go.Proofs.YtfkecmlmnhbmoaaGreatDoor
open Go.RowKit
/-- What a word of a NaN is. -/
def isNan (r : Nat) : Prop := ∃ s t, Ieee.double.read r = .nan s t
theorem nan_read (a b : Nat) (_ha : a < 2) (hb : b < 4503599627370495) : isNan (a * 2 ^ 63 + 9218868437227405312 + 1 + b) := by
  refine ⟨(a * 2 ^ 63 + 9218868437227405312 + 1 + b) / 9223372036854775808 % 2 == 1, 9218868437227405313 + b - 9218868437227405312, ?_⟩
  unfold Ieee.Format.read
  have h1 : Ieee.double.signWeight = 9223372036854775808 := by decide
  have h2 : Ieee.double.binade = 4503599627370496 := by decide
  have h3 : Ieee.double.infRung = 9218868437227405312 := by decide
  rw [h1, h2, h3]
  have h4 : (a * 2 ^ 63 + 9218868437227405312 + 1 + b) % 9223372036854775808 = 9218868437227405313 + b := by
    rw [show (2 : Nat) ^ 63 = 9223372036854775808 by decide]; omega
  dsimp only
  rw [h4, if_neg (by omega), if_neg (by omega), if_neg (by omega)]
/-- An operation on two reals gives a real, whatever they are. -/
theorem fl_any (P : Program) (op : BinOp) (h : op = .add ∨ op = .sub ∨ op = .mul ∨ op = .quo) (t : TypeId) (x y : Nat) (w : World) :
    ∃ r n, (binOp op t (.float .f64 x) (.float .f64 y)).run P w = .ok (.float .f64 r) (w.drewN n) ∧ (floatBits op .f64 x y = none → isNan r) := by
  cases hf : floatBits op .f64 x y with
  | some r => exact ⟨r, 0, run_float_arith w op t .f64 x y r hf, fun h => by cases h⟩
  | none =>
    refine ⟨_, 1, ?_, fun _ => nan_read (w.tape w.drawn (.nanBits .f64 x y) % 2) (w.tape w.drawn (.nanBits .f64 x y) / 2 % (2 ^ 52 - 1)) (by omega) (by have := Nat.mod_lt (w.tape w.drawn (.nanBits .f64 x y) / 2) (show 0 < 2 ^ 52 - 1 by decide); omega)⟩
    unfold floatBits at hf
    rcases h with rfl | rfl | rfl | rfl <;> simp only at hf <;> simp [binOp, Op.floatArith, hf, Question.forced, Question.cut] <;> rfl
theorem nan_order {r : Nat} (h : isNan r) (y : Nat) : Ieee.double.order r y = none := by
  obtain ⟨s, t, h⟩ := h
  unfold Ieee.Format.order
  rw [h]
  rfl
/-- Of a NaN the difference of itself is none. -/
theorem sub_nan {f : Nat} (h : isNan f) : floatBits .sub .f64 f f = none := by
  obtain ⟨s, t, h⟩ := h
  show (Ieee.double.sub f f) = none
  unfold Ieee.Format.sub
  rw [h]
  rfl
/-- A real that is no NaN, and below 10^14 from nought: its exponent. -/
theorem exp_small {f : Nat} (_hf : f < 18446744073709551616) (hn : ¬ isNan f)
    (h1 : (FloatKind.f64.format.order f 4816244402031689728 == some .gt || FloatKind.f64.format.order f 4816244402031689728 == some .eq) = false)
    (h2 : (FloatKind.f64.format.order f 14039616438886465536 == some .lt || FloatKind.f64.format.order f 14039616438886465536 == some .eq) = false) :
    f / 4503599627370496 % 2048 ≤ 1069 := by
  have e1 : Ieee.double.signWeight = 9223372036854775808 := by decide
  have e2 : Ieee.double.binade = 4503599627370496 := by decide
  have e3 : Ieee.double.infRung = 9218868437227405312 := by decide
  have e4 : Ieee.double.leastPlace = -1074 := by decide
  have ra : Ieee.double.read 4816244402031689728 = .number false 6400000000000000 (-6) := by decide
  have rb : Ieee.double.read 14039616438886465536 = .number true 6400000000000000 (-6) := by decide
  by_cases hE : f / 4503599627370496 % 2048 ≤ 1069
  · exact hE
  · exfalso
    have ho1 : FloatKind.f64.format.order f 4816244402031689728 = (Ieee.double.read f).order (Ieee.double.read 4816244402031689728) := rfl
    have ho2 : FloatKind.f64.format.order f 14039616438886465536 = (Ieee.double.read f).order (Ieee.double.read 14039616438886465536) := rfl
    rw [ho1, ra] at h1
    rw [ho2, rb] at h2
    clear ho1 ho2
    have hr : ¬ f % 9223372036854775808 < 4503599627370496 := by omega
    have hrd : (∃ s, Ieee.double.read f = .infinity s) ∨ (∃ s m p, Ieee.double.read f = .number s m p ∧ 4503599627370496 ≤ m ∧ (-5 : Int) ≤ p) ∨ isNan f := by
      unfold isNan Ieee.Format.read
      rw [e1, e2, e3, e4]
      dsimp only
      rw [if_neg hr]
      by_cases h3 : f % 9223372036854775808 < 9218868437227405312
      · rw [if_pos h3]
        exact .inr (.inl ⟨_, _, _, rfl, by omega, by omega⟩)
      · rw [if_neg h3]
        by_cases h4 : f % 9223372036854775808 = 9218868437227405312
        · rw [if_pos h4]; exact .inl ⟨_, rfl⟩
        · rw [if_neg h4]; exact .inr (.inr ⟨_, _, rfl⟩)
    rcases hrd with ⟨s, h⟩ | ⟨s, m, p, h, hm, hp⟩ | h
    · rw [h] at h1 h2
      cases s
      · exact absurd h1 (by decide)
      · exact absurd h2 (by decide)
    · rw [h] at h1 h2
      have hmin : min p (-6) = -6 := by omega
      obtain ⟨q, hq⟩ : ∃ q : Nat, (p - -6).toNat = q + 1 := ⟨(p - -6).toNat - 1, by omega⟩
      have hsh : 9007199254740992 ≤ m <<< (q + 1) := by
        rw [Nat.shiftLeft_eq]
        have : 1 ≤ 2 ^ q := Nat.one_le_two_pow
        calc 9007199254740992 ≤ m * 2 := by omega
          _ ≤ m * (2 ^ q * 2) := Nat.mul_le_mul_left m (by omega)
          _ = m * 2 ^ (q + 1) := by rw [Nat.pow_succ]
      have e0 : (6400000000000000 <<< ((-6 : Int) - -6).toNat : Nat) = 6400000000000000 := by decide
      cases s
      · simp only [Ieee.Datum.order, hmin, hq, Ieee.signed] at h1
        have : compare ((m <<< (q + 1) : Nat) : Int) ((6400000000000000 <<< ((-6 : Int) - -6).toNat : Nat) : Int) = .gt := by
          rw [Int.compare_eq_gt, e0]
          omega
        simp only [Bool.false_eq_true, ↓reduceIte, this] at h1
        exact absurd h1 (by decide)
      · simp only [Ieee.Datum.order, hmin, hq, Ieee.signed] at h2
        have : compare (-((m <<< (q + 1) : Nat) : Int)) (-((6400000000000000 <<< ((-6 : Int) - -6).toNat : Nat) : Int)) = .lt := by
          rw [Int.compare_eq_lt, e0]
          omega
        simp only [↓reduceIte, this] at h2
        exact absurd h2 (by decide)
    · exact hn h
end Go.Proofs.YtfkecmlmnhbmoaaGreatDoor
namespace Go.Proofs.YtfkecmlmnhbmoaaGreatDoor
open Go.RowKit
noncomputable def flR (op : BinOp) (h : op = .add ∨ op = .sub ∨ op = .mul ∨ op = .quo) (t : TypeId) (x y : Nat) (w : World) : Nat := Classical.choose (fl_any Tryz.prog op h t x y w)
noncomputable def flN (op : BinOp) (h : op = .add ∨ op = .sub ∨ op = .mul ∨ op = .quo) (t : TypeId) (x y : Nat) (w : World) : Nat := Classical.choose (Classical.choose_spec (fl_any Tryz.prog op h t x y w))
theorem fl_run (op : BinOp) (h : op = .add ∨ op = .sub ∨ op = .mul ∨ op = .quo) (t : TypeId) (x y : Nat) (w : World) :
    (binOp op t (.float .f64 x) (.float .f64 y)).run Tryz.prog w = .ok (.float .f64 (flR op h t x y w)) (w.drewN (flN op h t x y w)) := (Classical.choose_spec (Classical.choose_spec (fl_any Tryz.prog op h t x y w))).1
theorem fl_nan (op : BinOp) (h : op = .add ∨ op = .sub ∨ op = .mul ∨ op = .quo) (t : TypeId) (x y : Nat) (w : World) (hn : floatBits op .f64 x y = none) : isNan (flR op h t x y w) := (Classical.choose_spec (Classical.choose_spec (fl_any Tryz.prog op h t x y w))).2 hn
@[go_sem] theorem unary_negf (k : FloatKind) (b : Nat) : Op.unary .neg (.float k b) = pure (.float k (Op.negFloat k b)) := rfl
theorem drewN_drewN (w : World) (a b : Nat) : (w.drewN a).drewN b = w.drewN (a + b) := by simp [World.drewN, Nat.add_assoc]
/-- The powers of ten as reals. -/
structure Pow (N : Nat) (w : World) : Prop where
  low : 25 < N
  fp : ∃ b o, b < N ∧ w.cell? ⟨23, 0, none⟩ = some (.slice (some ⟨b, o, none⟩) 23 23) ∧ ∀ i, i < 23 → ∃ r, w.cell? ⟨b, o + i, none⟩ = some (.float .f64 r)
theorem Pow.kept {N : Nat} {w w' : World} {X : List Nat} (h : Pow N w) (hk : Kept X w w') (hN : N ≤ w.heap.size) (hX : ∀ x ∈ X, N ≤ x) : Pow N w' := by
  have hl := h.low
  have k : ∀ b o, b < N → w'.cell? ⟨b, o, none⟩ = w.cell? ⟨b, o, none⟩ := fun b o hb => hk.cell (by omega) (fun hm => by have := hX _ hm; omega)
  obtain ⟨b, o, hb, h1, h2⟩ := h.fp
  exact ⟨hl, b, o, hb, (k _ _ (by omega)).trans h1, fun i hi => by obtain ⟨r, hr⟩ := h2 i hi; exact ⟨r, (k _ _ hb).trans hr⟩⟩
theorem mulOk : BinOp.mul = .add ∨ BinOp.mul = .sub ∨ BinOp.mul = .mul ∨ BinOp.mul = .quo := .inr (.inr (.inl rfl))
theorem quoOk : BinOp.quo = .add ∨ BinOp.quo = .sub ∨ BinOp.quo = .mul ∨ BinOp.quo = .quo := .inr (.inr (.inr rfl))
end Go.Proofs.YtfkecmlmnhbmoaaGreatDoor
