import Derived.Test.YtfkecmlmnhbmoaaGreatDoorDs39
import Derived.Test.YtfkecmlmnhbmoaaGreatDoorDs42
namespace Go.Proofs.YtfkecmlmnhbmoaaGreatDoor
open Go.RowKit Go.Maps
theorem datum_zero {a : Ieee.Datum} (h : a.order (.number false 0 (-1074)) = some .eq) : ∃ s p, a = .number s 0 p := by
  cases a with
  | nan s t => simp [Ieee.Datum.order] at h
  | infinity s => cases s <;> simp [Ieee.Datum.order] at h
  | number s m p =>
    refine ⟨s, p, ?_⟩
    simp only [Ieee.Datum.order, Option.some.injEq, Std.LawfulEqCmp.compare_eq_iff_eq] at h
    have h3 : m <<< (p - min p (-1074)).toNat = 0 := by
      unfold Ieee.signed at h
      simp only [Nat.zero_shiftLeft] at h
      cases s <;> simp only [Bool.false_eq_true, ↓reduceIte] at h <;> omega
    rw [Nat.shiftLeft_eq] at h3
    have := (Nat.mul_eq_zero.1 h3).resolve_right (by have := Nat.two_pow_pos (p - min p (-1074)).toNat; omega)
    rw [this]
theorem feq_zero {a b : Nat} (h : feq a 0) (k : feq b 0) : feq a b := by
  have r0 : Ieee.double.read 0 = .number false 0 (-1074) := by decide
  have h1 : (Ieee.double.read a).order (Ieee.double.read 0) = some .eq := h
  have k1 : (Ieee.double.read b).order (Ieee.double.read 0) = some .eq := k
  rw [r0] at h1 k1
  obtain ⟨s, p, e⟩ := datum_zero h1
  obtain ⟨t, q, f⟩ := datum_zero k1
  show (Ieee.double.read a).order (Ieee.double.read b) = some .eq
  rw [e, f]
  cases s <;> cases t <;> simp [Ieee.Datum.order, Ieee.signed, Nat.zero_shiftLeft]
theorem z4_of {i g : Int} {r : Nat} {s : ByteArray} {keys : List ByteArray} {kids : F} (h : Good1 8 i g r s keys kids) : Z4 i g r s :=
  ⟨h.only.i.resolve_right (by decide), h.only.g.resolve_right (by decide), fne_feq (h.only.r.resolve_right (by decide)), isE (h.only.s.resolve_right (by decide))⟩
theorem NFree.drop : ∀ (n : Nat) {f : F}, NFree f → NFree (f.drop n)
  | 0, _, h => h
  | _ + 1, .nil, _ => trivial
  | n + 1, .cons _ _ _ _ _ _ _ rest, h => NFree.drop n (f := rest) h.2.2
theorem NFree.at {f : F} (h : NFree f) {j : Nat} {n : Nd} (hn : f.nd j = some n) : NFree1 n.k n.keys := by
  have := h.drop j
  rw [F.nd_drop hn] at this
  exact this.1
theorem diok_of {P : Nat → Prop} {w : World} {i g : Int} {r : Nat} {s : ByteArray} {keys : List ByteArray} {kids : F} {ka : Option Addr} {kc : Nat} {a : Option Addr} {cap : Nat} (h1 : Good1 8 i g r s keys kids) (h2 : Good kids) (h3 : NFree1 8 keys) (h4 : NFree kids) (hn : Node P w 8 i g r s keys kids ka kc a cap) : DiOk ⟨keys, kids⟩ :=
  ⟨h1.len rfl, h1.ascend rfl, h3.2, fun _ _n hj => ⟨OkF.at ⟨h2, hn.fit⟩ (F.nd_drop hj), (h4.at hj).1⟩⟩
/-- What a list of truth values, of nodes, tells at a place. -/
def tlf (bs : List Bool) (n : Nat) : Bool := bs.getD n false
def vlf (vs : List Nd) (n : Nat) : Nd := vs.getD n Nd.zero
def dup (d : Nat → Di) (j : Nat) (x : Di) : Nat → Di := fun n => if n = j then x else d n
theorem Hist.more {ss : List Stp} {d : Nat → Di} {bs : List Bool} {vs : List Nd} {j : Nat} (h : Hist ss d (tlf bs) (vlf vs) j) (hb : bs.length = j) (hv : vs.length = j) (hj : j < ss.length) {d' : Di} {b : Bool} {v : Nd} (hs : StepR (d j) ss[j].op ss[j].key ss[j].y d' b v) (hk : Simp ss[j].key) (hy : NdOk ss[j].y) :
    Hist ss (dup d (j + 1) d') (tlf (bs ++ [b])) (vlf (vs ++ [v])) (j + 1) := by
  have e1 : ∀ n, n < j → tlf (bs ++ [b]) n = tlf bs n := fun n hn => by simp [tlf, List.getD, List.getElem?_append_left (show n < bs.length by omega)]
  have e2 : ∀ n, n < j → vlf (vs ++ [v]) n = vlf vs n := fun n hn => by simp [vlf, List.getD, List.getElem?_append_left (show n < vs.length by omega)]
  have e3 : tlf (bs ++ [b]) j = b := by subst hb; simp [tlf, List.getD]
  have e4 : vlf (vs ++ [v]) j = v := by subst hv; simp [vlf, List.getD]
  have e5 : ∀ n, n ≤ j → dup d (j + 1) d' n = d n := fun n hn => if_neg (by omega)
  have e6 : dup d (j + 1) d' (j + 1) = d' := if_pos rfl
  refine ⟨hj, fun n h1 h2 => ?_, fun n h1 h2 => ?_, fun n h1 h2 => ?_⟩
  · by_cases e : n = j
    · subst e; rw [e3, e4, e6, e5 _ (Nat.le_refl _)]; exact hs
    · rw [e1 _ (by omega), e2 _ (by omega), e5 _ (by omega), e5 _ (by omega)]; exact h.step n h1 (by omega)
  · by_cases e : n = j
    · subst e; exact hk
    · exact h.simp n h1 (by omega)
  · by_cases e : n = j
    · subst e; exact hy
    · exact h.ok n h1 (by omega)
theorem Two.out2 {L : Nat → Prop} {B b : Nat} {w : World} {vb vv : Value} {bs : List Bool} {vs : List Nd} {n : Nat} (h : Two L B b w vb vv bs vs) (hn : bs.length = n) (hl : vs.length = n) (hb : n * 96 ≤ 140737488355328) :
    ∃ tb tc va vc, vb = .slice tb n tc ∧ vv = .slice va n vc ∧ RowIn (Lt w.heap.size) w tb (bs.map .bool) ∧ Kids (Lt w.heap.size) w va vc (F.of vs) := by
  obtain ⟨G, cs, hkr, hir, hfl, hne, h5, h6⟩ := h
  have hil : (F.of vs).len = bs.length := by rw [F.of_len, hl, hn]
  subst hn
  have e1 : ∃ tb tc, vb = .slice tb bs.length tc ∧ RowIn (Lt w.heap.size) w tb (bs.map .bool) := by
    rcases hkr.2 with ⟨rfl, h0⟩ | ⟨g, c, cur, rfl, h2, h3, h4⟩
    · exact ⟨none, 0, by rw [h0], fun i hi => by rw [List.length_map, h0] at hi; omega⟩
    · refine ⟨_, c, rfl, fun i hi => ⟨g, 0, rfl, lt_of_block h3, ?_⟩⟩
      have := World.ownsRow.cells (g := g) hkr rfl i _ (List.getElem?_eq_getElem hi)
      simpa [addr0] using this
  have e2 : ∃ va vc, vv = .slice va bs.length vc ∧ Kids (Lt w.heap.size) w va vc (F.of vs) := by
    rcases hir.2 with ⟨rfl, h0⟩ | ⟨g, c, cur, rfl, h2, h3, h4⟩
    · exact ⟨none, 0, by rw [h0], by rw [hil]; omega, by rw [hil]; omega, .inl (by rw [hil]; exact h0)⟩
    · refine ⟨_, c, rfl, by rw [hil]; exact h4.1, by rw [hil]; exact hb, .inr ⟨g, 0, rfl, lt_of_block h3, ?_⟩⟩
      exact Flat.in (hfl.mono fun x hx => (h5 x hx).1) fun j u hj => by
        have := World.ownsRow.cells (g := g) hir rfl j u hj
        simpa [addr0] using this
  obtain ⟨tb, tc, rfl, h1⟩ := e1
  obtain ⟨va, vc, rfl, h2⟩ := e2
  exact ⟨tb, tc, va, vc, rfl, rfl, h1, h2⟩
theorem Rg.own2 {T : TypeId} {wS w : World} {k0 i0 : Option Nat} {B : Nat} {vk vi : Value} {n : Nat} {ks : List Value} {m : Nat} {cs : List Value} {key : Value} {ys : List Value} {bk bi : Option Nat} (h : Rg T wS w k0 i0 B vk vi n ks m cs key ys bk bi) {x : Nat} (h1 : x < wS.heap.size) (h2 : k0 ≠ some x) (h3 : i0 ≠ some x) : ¬ Own2 vk vi x := fun ho => by
  rcases ho with e | e
  · rcases h.ka with h4 | ⟨g, h4, h5⟩
    · exact h2 (by rw [← h4]; exact e)
    · rw [e] at h4; cases h4; omega
  · rcases h.ia with h4 | ⟨g, h4, h5⟩
    · exact h3 (by rw [← h4]; exact e)
    · rw [e] at h4; cases h4; omega
end Go.Proofs.YtfkecmlmnhbmoaaGreatDoor
