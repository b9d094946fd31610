import Derived.Test.YtfkecmlmnhbmoaaGreatDoorDc
namespace Go.Proofs.YtfkecmlmnhbmoaaGreatDoor
open Go.RowKit
/-- Of what was there only the blocks of X may have turned. -/
structure Kept (X : List Nat) (w w' : World) : Prop where
  os : w'.os = w.os
  tape : w'.tape = w.tape
  output : w'.output = w.output
  size : w.heap.size ≤ w'.heap.size
  block : ∀ k, k < w.heap.size → k ∉ X → w'.heap[k]? = w.heap[k]?
theorem Kept.refl (X : List Nat) (w : World) : Kept X w w := ⟨rfl, rfl, rfl, Nat.le_refl _, fun _ _ _ => rfl⟩
theorem Kept.trans {X Y Z : List Nat} {a b c : World} (h : Kept X a b) (k : Kept Y b c) (hX : ∀ x ∈ X, x ∈ Z) (hY : ∀ y ∈ Y, y < a.heap.size → y ∈ Z) : Kept Z a c :=
  ⟨k.os.trans h.os, k.tape.trans h.tape, k.output.trans h.output, Nat.le_trans h.size k.size, fun i hi hz =>
    (k.block i (Nat.lt_of_lt_of_le hi h.size) (fun hy => hz (hY i hy hi))).trans (h.block i hi (fun hx => hz (hX i hx)))⟩
theorem Kept.alloc {X : List Nat} {a w : World} (h : Kept X a w) (o : Obj) : Kept X a (w.alloc o) :=
  h.trans (Z := X) (Y := []) ⟨rfl, rfl, rfl, by simp, fun k hk _ => Below.heap_alloc _ _ _ hk⟩ (fun _ h => h) (by simp)
theorem Kept.drew {X : List Nat} {a w : World} (h : Kept X a w) : Kept X a w.drew := ⟨h.os, h.tape, h.output, h.size, h.block⟩
theorem Kept.setCell {X : List Nat} {a w : World} (h : Kept X a w) {p : Addr} (hp : a.heap.size ≤ p.block ∨ p.block ∈ X) (u : Value) : Kept X a (w.setCell p u) :=
  ⟨h.os, h.tape, h.output, by simpa [World.setCell] using h.size, fun k hk hx => by
    rw [Below.heap_setCell _ _ _ _ (by rintro rfl; rcases hp with hp | hp; omega; exact hx hp)]
    exact h.block k hk hx⟩
theorem Kept.mono {X Y : List Nat} {a w : World} (h : Kept X a w) (hx : ∀ x ∈ X, x < a.heap.size → x ∈ Y) : Kept Y a w :=
  ⟨h.os, h.tape, h.output, h.size, fun k hk hy => h.block k hk (fun hX => hy (hx k hX hk))⟩
theorem Kept.below {a w : World} (h : Kept [] a w) : Below a.heap.size a w := ⟨h.os, h.tape, h.output, h.size, fun k hk => h.block k hk (by simp)⟩
theorem Kept.of_below {a w : World} {X : List Nat} (h : Below a.heap.size a w) : Kept X a w := ⟨h.os, h.tape, h.output, h.size, fun k hk _ => h.block k hk⟩
theorem Kept.of_grown {a w : World} {r : Option Nat} {X : List Nat} (h : a.grownBy w r) (hr : ∀ k, r = some k → k ∈ X) : Kept X a w :=
  ⟨h.os, h.tape, h.output, h.size, fun k hk hx => h.block k hk (fun e => hx (hr k e.symm))⟩
theorem Kept.cell {X : List Nat} {a w : World} (h : Kept X a w) {b o : Nat} (hb : b < a.heap.size) (hx : b ∉ X) : w.cell? ⟨b, o, none⟩ = a.cell? ⟨b, o, none⟩ := World.cell?_of_block (w := a) (h.block b hb hx)
theorem Kept.frozen {X : List Nat} {a w : World} (h : Kept X a w) {b o : Nat} (hb : b < a.heap.size) (hx : b ∉ X) : w.frozen? ⟨b, o, none⟩ = a.frozen? ⟨b, o, none⟩ := World.frozen?_of_block (w := a) (h.block b hb hx)
/-- A block of one cell, not frozen. -/
theorem one_cell {w : World} {b t : Nat} {v : Value} (h : w.heap[b]? = some (.cells #[v] t (0, 0))) : w.cell? ⟨b, 0, none⟩ = some v := by simp [World.cell?, h]
theorem one_free {w : World} {b t : Nat} {v : Value} (h : w.heap[b]? = some (.cells #[v] t (0, 0))) (o : Nat) : w.frozen? ⟨b, o, none⟩ = false := by simp [World.frozen?, h]
theorem one_set {w : World} {b t : Nat} {v : Value} (h : w.heap[b]? = some (.cells #[v] t (0, 0))) (u : Value) : (w.setCell ⟨b, 0, none⟩ u).heap[b]? = some (.cells #[u] t (0, 0)) := by
  simp [World.setCell, Array.getElem?_modify, h]
theorem lt_of_block {w : World} {b : Nat} {o : Obj} (h : w.heap[b]? = some o) : b < w.heap.size := (Array.getElem?_eq_some_iff.1 h).1

theorem heap_at {w : World} {o : Obj} {b : Nat} (h : b = w.heap.size) : (w.alloc o).heap[b]? = some o := by
  subst h; show (w.heap.push o)[_]? = _; simp
theorem heap_lt {w : World} {o : Obj} {b : Nat} (h : b < w.heap.size) : (w.alloc o).heap[b]? = w.heap[b]? := Below.heap_alloc _ _ _ h
theorem heap_set {w : World} {p : Addr} {u : Value} {b : Nat} (h : b ≠ p.block) : (w.setCell p u).heap[b]? = w.heap[b]? := Below.heap_setCell _ _ _ _ h
theorem cell_set_other {b c : Nat} (h : b ≠ c) (o p : Nat) (X : World) (u : Value) : (X.setCell ⟨b, o, none⟩ u).cell? ⟨c, p, none⟩ = X.cell? ⟨c, p, none⟩ :=
  World.cell?_setCell_other _ _ _ _ (by intro e; simp only [Addr.mk.injEq] at e; exact h e.1)
theorem lt6 {B n : Nat} (h : B < n) : B < n + 1 ∧ B < n + 1 + 1 ∧ B < n + 1 + 1 + 1 ∧ B < n + 1 + 1 + 1 + 1 ∧ B < n + 1 + 1 + 1 + 1 + 1 ∧ B < n + 1 + 1 + 1 + 1 + 1 + 1 := by omega
/-- Arrays within one another, k + 1 of them, made from block B on. -/
def Nest (w : World) (B : Nat) : Nat → Value → Prop
  | 0, v => ∃ g, B ≤ g ∧ v = .iface 70 (.slice (some ⟨g, 0, none⟩) 0 0)
  | k + 1, v => ∃ g cap x, B ≤ g ∧ g < w.heap.size ∧ v = .iface 70 (.slice (some ⟨g, 0, none⟩) 1 cap) ∧ w.cell? ⟨g, 0, none⟩ = some x ∧ Nest w B k x
theorem Nest.kept {w w' : World} {B : Nat} {X : List Nat} (hk : Kept X w w') (hX : ∀ x ∈ X, x < B) : ∀ {k : Nat} {v : Value}, Nest w B k v → Nest w' B k v
  | 0, _, h => h
  | k + 1, v, ⟨g, cap, x, h1, h2, h3, h4, h5⟩ => ⟨g, cap, x, h1, Nat.lt_of_lt_of_le h2 hk.size, h3, by rw [hk.cell h2 (fun hm => by have := hX _ hm; omega)]; exact h4, Nest.kept hk hX h5⟩
theorem Nest.mono {w : World} {B B' : Nat} (hB : B' ≤ B) : ∀ {k : Nat} {v : Value}, Nest w B k v → Nest w B' k v
  | 0, _, ⟨g, h1, h2⟩ => ⟨g, Nat.le_trans hB h1, h2⟩
  | k + 1, v, ⟨g, cap, x, h1, h2, h3, h4, h5⟩ => ⟨g, cap, x, Nat.le_trans hB h1, h2, h3, h4, Nest.mono hB h5⟩

theorem Nest.iface {w : World} {B : Nat} : ∀ {k : Nat} {v : Value}, Nest w B k v → ∃ a n c, v = .iface 70 (.slice a n c)
  | 0, _, ⟨g, _, h2⟩ => ⟨_, _, _, h2⟩
  | k + 1, _, ⟨g, cap, _, _, _, h3, _⟩ => ⟨_, _, _, h3⟩

set_option maxHeartbeats 1000000 in
theorem arr_zero (L most : Int) (k B : Nat) (r : Bool) (w : World) (hL : L ≤ most) (hm : 0 < most) (hB : w.heap[B]? = some (.cells #[.string (Br 1 (k + 1))] 9 (0, 0))) :
    Calls Tryz.prog 105 #[.agg #[], .pointer (some ⟨B, 0, none⟩), .int .i64 L, .int .i64 most, .bool r] w fun e w' =>
      ∃ q g, e = .returned (.tuple #[.pointer (some ⟨q, 0, none⟩), .nilIface]) ∧ w.heap.size ≤ q ∧ w.heap.size ≤ g ∧ w'.cell? ⟨q, 0, none⟩ = some (.slice (some ⟨g, 0, none⟩) 0 0) ∧ w'.heap[B]? = some (.cells #[.string (Br 0 k)] 9 (0, 0)) ∧ Kept [B] w w' := by
  have hc := one_cell hB
  have hf := one_free hB 0
  have hlt := lt_of_block hB
  have H := Lib.hid hB; clear hB
  obtain ⟨l1, l2, l3, l4, l5, l6⟩ := lt6 hlt
  have z1 : (((Br 1 (k + 1)).size : Int) == 0) = false := by rw [Br_size, beq_eq_false_iff_ne]; omega
  have z2 : (((Br 1 (k + 1)).size : Int) == 1) = false := by rw [Br_size, beq_eq_false_iff_ne]; omega
  have z3 : (((Br 0 (k + 1)).size : Int) == 0) = false := by rw [Br_size, beq_eq_false_iff_ne]; omega
  go_enter Tryz.func105, Tryz.ntmps105
  go_wp2_with (first | (go_at_call 79; refine (check_ok _ _ _ _ hm hL).mono ?_; rintro e w' ⟨rfl, rfl⟩) | (go_at_call 130; refine (hasp_open _ _ _).mono ?_; rintro e w' ⟨rfl, rfl⟩) | (go_at_call 130; refine (hasp_close _ _).mono ?_; rintro e w' ⟨rfl, rfl⟩) | (go_at_call 110; refine (fwd_open _ _ _ (by omega)).mono ?_; rintro e w' ⟨rfl, rfl⟩) | (go_at_call 80; refine (trim_br _ _ _ (by omega)).mono ?_; rintro e w' ⟨rfl, rfl⟩))
  refine wp_loop_once ?_
  go_wp2_with (first | (go_at_call 130; refine (hasp_close _ _).mono ?_; rintro e w' ⟨rfl, rfl⟩) | (go_at_call 110; refine (fwd_close _ _).mono ?_; rintro e w' ⟨rfl, rfl⟩))
  go_ret2
  refine ⟨_, w.heap.size + 1 + 1 + 1, rfl, by omega, by omega, ?_, ?_, ?_⟩
  · rw [World.cell?_alloc_at _ _ _ _ (by simp)]; rfl
  · repeat rw [Below.heap_alloc _ _ _ (by simp [World.setCell]; omega)]
    exact one_set H.out _
  · exact (((((((Kept.refl [B] w).setCell (.inr (List.mem_singleton.2 rfl)) _).alloc _).alloc _).alloc _).alloc _).alloc _)
end Go.Proofs.YtfkecmlmnhbmoaaGreatDoor
