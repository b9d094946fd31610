import Derived.Test.YtfkecmlmnhbmoaaGreatDoorProg
import Derived.WalkKit
import Derived.WalkSpells
import Derived.WalkLawsBesides
import Derived.Lib.Hide
namespace Go.Proofs.YtfkecmlmnhbmoaaGreatDoor
open Go.RowKit
/-- j opening brackets and k closing ones. -/
def Br (j k : Nat) : ByteArray := ⟨((List.replicate j 91 : List UInt8) ++ (List.replicate k 93 : List UInt8)).toArray⟩
theorem Br_size (j k : Nat) : (Br j k).size = j + k := by
  unfold Br; show Array.size _ = _; simp
theorem Br_toList (j k : Nat) : (Br j k).data.toList = (List.replicate j 91 : List UInt8) ++ (List.replicate k 93 : List UInt8) := by simp [Br]
theorem ba_ext {a b : ByteArray} (h : a.data.toList = b.data.toList) : a = b := by
  cases a; cases b; congr 1; exact Array.toList_inj.1 h
theorem Br_tail (j k : Nat) : (Br (j + 1) k).extract 1 (Br (j + 1) k).size = Br j k := by
  apply ba_ext
  rw [ByteArray.data_extract, Br_toList]
  simp [Br_toList, Br_size, List.replicate_succ]
  rw [List.take_of_length_le (by simp)]
theorem Br_tail0 (k : Nat) : (Br 0 (k + 1)).extract 1 (Br 0 (k + 1)).size = Br 0 k := by
  apply ba_ext
  rw [ByteArray.data_extract, Br_toList]
  simp [Br_toList, Br_size, List.replicate_succ]
theorem Br_head (j k : Nat) : ((Br (j + 1) k).extract 0 1).toList = [91] := by
  rw [ByteArray.toList_eq]
  rw [ByteArray.data_extract]
  simp [Br_toList, List.replicate_succ]
theorem Br_head0 (k : Nat) : ((Br 0 (k + 1)).extract 0 1).toList = [93] := by
  rw [ByteArray.toList_eq]
  rw [ByteArray.data_extract]
  simp [Br_toList, List.replicate_succ]
theorem Br_first (j k : Nat) (h : 0 < (Br (j + 1) k).size) : (Br (j + 1) k)[0]'h = 91 := by
  show (Br (j + 1) k).data[0] = 91
  simp [Br, List.replicate_succ]
theorem Br_first0 (k : Nat) (h : 0 < (Br 0 (k + 1)).size) : (Br 0 (k + 1))[0]'h = 93 := by
  show (Br 0 (k + 1)).data[0] = 93
  simp [Br, List.replicate_succ]
end Go.Proofs.YtfkecmlmnhbmoaaGreatDoor
namespace Go.Proofs.YtfkecmlmnhbmoaaGreatDoor
open Go.RowKit
set_option maxHeartbeats 400000 in
theorem nobuf (p : Addr) (s : ByteArray) (w : World) (hc : w.cell? p = some (.string s)) (h1 : ((s.size : Int) == 0) = false) :
    Calls Tryz.prog 62 #[.pointer (some p)] w fun e w' => e = .returned (.bool false) ∧ w = w' := by
  go_enter Tryz.func62, Tryz.ntmps62
  go_wp2
  go_ret
  exact ⟨rfl, rfl⟩
set_option maxHeartbeats 400000 in
theorem check_ok (s : ByteArray) (a b : Int) (w : World) (h0 : 0 < b) (h : a ≤ b) :
    Calls Tryz.prog 79 #[.string s, .int .i64 a, .int .i64 b] w fun e w' => e = .returned .nilIface ∧ w = w' := by
  go_enter Tryz.func79, Tryz.ntmps79
  go_wp2
  go_ret
  exact ⟨rfl, rfl⟩
set_option maxHeartbeats 400000 in
theorem check_no (s : ByteArray) (a b : Int) (v : Value) (w : World) (h0 : 0 < b) (h : b < a) (hv : w.cell? ⟨1, 0, none⟩ = some v) :
    Calls Tryz.prog 79 #[.string s, .int .i64 a, .int .i64 b] w fun e w' => e = .returned v ∧ w = w' := by
  go_enter Tryz.func79, Tryz.ntmps79
  go_wp2
  go_ret
  exact ⟨rfl, rfl⟩
set_option maxHeartbeats 400000 in
theorem space1 (c : Int) (w : World) (h : 33 ≤ c) (h2 : c ≤ 126):
    Calls Tryz.prog 101 #[.int .i32 c] w fun e w' => e = .returned (.bool false) ∧ w = w' := by
  go_enter Tryz.func101, Tryz.ntmps101
  go_wp2
  go_ret
  exact ⟨rfl, rfl⟩
set_option maxHeartbeats 400000 in
theorem white1 (c : Int) (w : World) (h : 33 ≤ c) (h2 : c ≤ 126):
    Calls Tryz.prog 100 #[.int .i32 c] w fun e w' => e = .returned (.bool false) ∧ w = w' := by
  have h0 : (c == 0) = false := beq_eq_false_iff_ne.2 (by omega)
  go_enter Tryz.func100, Tryz.ntmps100
  go_wp2_with (go_at_call 101; refine (space1 _ _ h h2).mono ?_; rintro e w' ⟨rfl, rfl⟩)
  go_ret
  exact ⟨rfl, rfl⟩
set_option maxHeartbeats 400000 in
theorem index1 (s : ByteArray) (w : World) (h0 : 0 < s.size) (h : 33 ≤ (s[0]'h0).toNat) (h2 : (s[0]'h0).toNat ≤ 126) :
    Calls Tryz.prog 129 #[.string s, .func (.func 100) #[] #[], .bool false] w fun e w' => e = .returned (.int .i64 0) ∧ w.alloc (.stringIter s 1) = w' := by
  have hn := run_next_ascii (P := Tryz.prog) w s 0 0 h0 (by omega)
  go_enter Tryz.func129, Tryz.ntmps129
  go_wp2_with fail
  refine wp_loop_once ?_
  go_wp2_with (go_at_call 100; refine (white1 _ _ (by omega) (by omega)).mono ?_; rintro e w' ⟨rfl, rfl⟩)
  go_ret
  exact ⟨rfl, rfl⟩
set_option maxHeartbeats 400000 in
theorem trimf (s : ByteArray) (w : World) (h0 : 0 < s.size) (h : 33 ≤ (s[0]'h0).toNat) (h2 : (s[0]'h0).toNat ≤ 126) :
    Calls Tryz.prog 103 #[.string s, .func (.func 100) #[] #[]] w fun e w' => e = .returned (.string s) ∧ w.alloc (.stringIter s 1) = w' := by
  go_enter Tryz.func103, Tryz.ntmps103
  go_wp2_with (go_at_call 129; refine (index1 _ _ h0 h h2).mono ?_; rintro e w1 ⟨rfl, rfl⟩)
  go_ret
  exact ⟨rfl, rfl⟩
set_option maxHeartbeats 400000 in
theorem trim1 (s : ByteArray) (w : World) (h0 : 0 < s.size) (h : 33 ≤ (s[0]'h0).toNat) (h2 : (s[0]'h0).toNat ≤ 126) (h3 : (((s[0]'h0).toNat : Int) != 37) = true) :
    Calls Tryz.prog 80 #[.string s, .bool false] w fun e w' => e = .returned (.tuple #[.string s, .bool false]) ∧ w.alloc (.stringIter s 1) = w' := by
  go_enter Tryz.func80, Tryz.ntmps80
  go_wp2_with fail
  refine wp_loop_once ?_
  go_wp2_with (go_at_call 103; refine (trimf _ _ h0 h h2).mono ?_; rintro e w1 ⟨rfl, rfl⟩)
  all_goals go_ret2
  all_goals exact ⟨rfl, rfl⟩
set_option maxHeartbeats 400000 in
theorem hasp (s : ByteArray) (p : UInt8) (b : Bool) (w : World) (h0 : 1 ≤ s.size) (hb : ((s.extract 0 1).toList == [p]) = b) :
    Calls Tryz.prog 130 #[.string s, .string ⟨#[p]⟩] w fun e w' => e = .returned (.bool b) ∧ w = w' := by
  go_enter Tryz.func130, Tryz.ntmps130
  go_wp2
  go_ret
  exact ⟨rfl, rfl⟩
set_option maxHeartbeats 400000 in
theorem fwd1 (s : ByteArray) (w : World) (h0 : 2 ≤ s.size)  :
    Calls Tryz.prog 110 #[.string s, .int .i64 1] w fun e w' => e = .returned (.string (s.extract 1 s.size)) ∧ w = w' := by
  go_enter Tryz.func110, Tryz.ntmps110
  go_wp2
  go_ret
  exact ⟨rfl, rfl⟩
set_option maxHeartbeats 400000 in
theorem fwd0 (s : ByteArray) (w : World) (h0 : s.size < 2)  :
    Calls Tryz.prog 110 #[.string s, .int .i64 1] w fun e w' => e = .returned (.string ⟨#[]⟩) ∧ w = w' := by
  go_enter Tryz.func110, Tryz.ntmps110
  go_wp2
  go_ret
  exact ⟨rfl, rfl⟩
/-! on brackets -/
theorem fwd_open (j k : Nat) (w : World) (h : 1 ≤ j + k) :
    Calls Tryz.prog 110 #[.string (Br (j + 1) k), .int .i64 1] w fun e w' => e = .returned (.string (Br j k)) ∧ w = w' :=
  (fwd1 (Br (j + 1) k) w (by rw [Br_size]; omega)).mono fun _ _ h => by rw [Br_tail] at h; exact h
theorem fwd_close (k : Nat) (w : World) :
    Calls Tryz.prog 110 #[.string (Br 0 (k + 1)), .int .i64 1] w fun e w' => e = .returned (.string (Br 0 k)) ∧ w = w' := by
  cases k with
  | zero => exact (fwd0 (Br 0 1) w (by rw [Br_size]; omega))
  | succ k => exact (fwd1 (Br 0 (k + 2)) w (by rw [Br_size]; omega)).mono fun _ _ h => by rw [Br_tail0] at h; exact h
theorem hasp_open (j k : Nat) (w : World) :
    Calls Tryz.prog 130 #[.string (Br (j + 1) k), .string ⟨#[91]⟩] w fun e w' => e = .returned (.bool true) ∧ w = w' :=
  hasp _ _ _ w (by rw [Br_size]; omega) (by rw [Br_head]; rfl)
theorem hasp_no (j k : Nat) (w : World) :
    Calls Tryz.prog 130 #[.string (Br (j + 1) k), .string ⟨#[93]⟩] w fun e w' => e = .returned (.bool false) ∧ w = w' :=
  hasp _ _ _ w (by rw [Br_size]; omega) (by rw [Br_head]; rfl)
theorem hasp_close (k : Nat) (w : World) :
    Calls Tryz.prog 130 #[.string (Br 0 (k + 1)), .string ⟨#[93]⟩] w fun e w' => e = .returned (.bool true) ∧ w = w' :=
  hasp _ _ _ w (by rw [Br_size]; omega) (by rw [Br_head0]; rfl)
theorem trim_br (j k : Nat) (w : World) (h : 1 ≤ j + k) :
    Calls Tryz.prog 80 #[.string (Br j k), .bool false] w fun e w' => e = .returned (.tuple #[.string (Br j k), .bool false]) ∧ w.alloc (.stringIter (Br j k) 1) = w' := by
  cases j with
  | succ j =>
    have h0 : 0 < (Br (j + 1) k).size := by rw [Br_size]; omega
    exact trim1 _ w h0 (by rw [Br_first]; decide) (by rw [Br_first]; decide) (by rw [Br_first]; decide)
  | zero =>
    obtain ⟨k, rfl⟩ : ∃ m, k = m + 1 := ⟨k - 1, by omega⟩
    have h0 : 0 < (Br 0 (k + 1)).size := by rw [Br_size]; omega
    exact trim1 _ w h0 (by rw [Br_first0]; decide) (by rw [Br_first0]; decide) (by rw [Br_first0]; decide)
end Go.Proofs.YtfkecmlmnhbmoaaGreatDoor
namespace Go.Proofs.YtfkecmlmnhbmoaaGreatDoor
open Go.RowKit
/-- Of what was there only the blocks of X may have turned. -/
structure Kept (X : List Nat) (w w' : World) : Prop where
  os : w'.os = w.os
  tape : w'.tape = w.tape
  output : w'.output = w.output
  size : w.heap.size ≤ w'.heap.size
  block : ∀ k, k < w.heap.size → k ∉ X → w'.heap[k]? = w.heap[k]?
theorem Kept.refl (X : List Nat) (w : World) : Kept X w w := ⟨rfl, rfl, rfl, Nat.le_refl _, fun _ _ _ => rfl⟩
theorem Kept.trans {X Y Z : List Nat} {a b c : World} (h : Kept X a b) (k : Kept Y b c) (hX : ∀ x ∈ X, x ∈ Z) (hY : ∀ y ∈ Y, y < a.heap.size → y ∈ Z) : Kept Z a c :=
  ⟨k.os.trans h.os, k.tape.trans h.tape, k.output.trans h.output, Nat.le_trans h.size k.size, fun i hi hz =>
    (k.block i (Nat.lt_of_lt_of_le hi h.size) (fun hy => hz (hY i hy hi))).trans (h.block i hi (fun hx => hz (hX i hx)))⟩
theorem Kept.alloc {X : List Nat} {a w : World} (h : Kept X a w) (o : Obj) : Kept X a (w.alloc o) :=
  h.trans (Z := X) (Y := []) ⟨rfl, rfl, rfl, by simp, fun k hk _ => Below.heap_alloc _ _ _ hk⟩ (fun _ h => h) (by simp)
theorem Kept.drew {X : List Nat} {a w : World} (h : Kept X a w) : Kept X a w.drew := ⟨h.os, h.tape, h.output, h.size, h.block⟩
theorem Kept.setCell {X : List Nat} {a w : World} (h : Kept X a w) {p : Addr} (hp : a.heap.size ≤ p.block ∨ p.block ∈ X) (u : Value) : Kept X a (w.setCell p u) :=
  ⟨h.os, h.tape, h.output, by simpa [World.setCell] using h.size, fun k hk hx => by
    rw [Below.heap_setCell _ _ _ _ (by rintro rfl; rcases hp with hp | hp; omega; exact hx hp)]
    exact h.block k hk hx⟩
theorem Kept.mono {X Y : List Nat} {a w : World} (h : Kept X a w) (hx : ∀ x ∈ X, x < a.heap.size → x ∈ Y) : Kept Y a w :=
  ⟨h.os, h.tape, h.output, h.size, fun k hk hy => h.block k hk (fun hX => hy (hx k hX hk))⟩
theorem Kept.below {a w : World} (h : Kept [] a w) : Below a.heap.size a w := ⟨h.os, h.tape, h.output, h.size, fun k hk => h.block k hk (by simp)⟩
theorem Kept.of_grown {a w : World} {r : Option Nat} {X : List Nat} (h : a.grownBy w r) (hr : ∀ k, r = some k → k ∈ X) : Kept X a w :=
  ⟨h.os, h.tape, h.output, h.size, fun k hk hx => h.block k hk (fun e => hx (hr k e.symm))⟩
theorem Kept.cell {X : List Nat} {a w : World} (h : Kept X a w) {b o : Nat} (hb : b < a.heap.size) (hx : b ∉ X) : w.cell? ⟨b, o, none⟩ = a.cell? ⟨b, o, none⟩ := World.cell?_of_block (w := a) (h.block b hb hx)
theorem Kept.frozen {X : List Nat} {a w : World} (h : Kept X a w) {b o : Nat} (hb : b < a.heap.size) (hx : b ∉ X) : w.frozen? ⟨b, o, none⟩ = a.frozen? ⟨b, o, none⟩ := World.frozen?_of_block (w := a) (h.block b hb hx)
/-- A block of one cell, not frozen. -/
theorem one_cell {w : World} {b t : Nat} {v : Value} (h : w.heap[b]? = some (.cells #[v] t (0, 0))) : w.cell? ⟨b, 0, none⟩ = some v := by simp [World.cell?, h]
theorem one_free {w : World} {b t : Nat} {v : Value} (h : w.heap[b]? = some (.cells #[v] t (0, 0))) (o : Nat) : w.frozen? ⟨b, o, none⟩ = false := by simp [World.frozen?, h]
theorem one_set {w : World} {b t : Nat} {v : Value} (h : w.heap[b]? = some (.cells #[v] t (0, 0))) (u : Value) : (w.setCell ⟨b, 0, none⟩ u).heap[b]? = some (.cells #[u] t (0, 0)) := by
  simp [World.setCell, Array.getElem?_modify, h]
theorem lt_of_block {w : World} {b : Nat} {o : Obj} (h : w.heap[b]? = some o) : b < w.heap.size := (Array.getElem?_eq_some_iff.1 h).1

theorem heap_at {w : World} {o : Obj} {b : Nat} (h : b = w.heap.size) : (w.alloc o).heap[b]? = some o := by
  subst h; show (w.heap.push o)[_]? = _; simp
theorem heap_lt {w : World} {o : Obj} {b : Nat} (h : b < w.heap.size) : (w.alloc o).heap[b]? = w.heap[b]? := Below.heap_alloc _ _ _ h
theorem heap_set {w : World} {p : Addr} {u : Value} {b : Nat} (h : b ≠ p.block) : (w.setCell p u).heap[b]? = w.heap[b]? := Below.heap_setCell _ _ _ _ h
theorem cell_set_other {b c : Nat} (h : b ≠ c) (o p : Nat) (X : World) (u : Value) : (X.setCell ⟨b, o, none⟩ u).cell? ⟨c, p, none⟩ = X.cell? ⟨c, p, none⟩ :=
  World.cell?_setCell_other _ _ _ _ (by intro e; simp only [Addr.mk.injEq] at e; exact h e.1)
theorem lt6 {B n : Nat} (h : B < n) : B < n + 1 ∧ B < n + 1 + 1 ∧ B < n + 1 + 1 + 1 ∧ B < n + 1 + 1 + 1 + 1 ∧ B < n + 1 + 1 + 1 + 1 + 1 ∧ B < n + 1 + 1 + 1 + 1 + 1 + 1 := by omega
/-- Arrays within one another, k + 1 of them, made from block B on. -/
def Nest (w : World) (B : Nat) : Nat → Value → Prop
  | 0, v => ∃ g, B ≤ g ∧ v = .iface 70 (.slice (some ⟨g, 0, none⟩) 0 0)
  | k + 1, v => ∃ g cap x, B ≤ g ∧ g < w.heap.size ∧ v = .iface 70 (.slice (some ⟨g, 0, none⟩) 1 cap) ∧ w.cell? ⟨g, 0, none⟩ = some x ∧ Nest w B k x
theorem Nest.kept {w w' : World} {B : Nat} {X : List Nat} (hk : Kept X w w') (hX : ∀ x ∈ X, x < B) : ∀ {k : Nat} {v : Value}, Nest w B k v → Nest w' B k v
  | 0, _, h => h
  | k + 1, v, ⟨g, cap, x, h1, h2, h3, h4, h5⟩ => ⟨g, cap, x, h1, Nat.lt_of_lt_of_le h2 hk.size, h3, by rw [hk.cell h2 (fun hm => by have := hX _ hm; omega)]; exact h4, Nest.kept hk hX h5⟩
theorem Nest.mono {w : World} {B B' : Nat} (hB : B' ≤ B) : ∀ {k : Nat} {v : Value}, Nest w B k v → Nest w B' k v
  | 0, _, ⟨g, h1, h2⟩ => ⟨g, Nat.le_trans hB h1, h2⟩
  | _k + 1, _v, ⟨g, cap, x, h1, h2, h3, h4, h5⟩ => ⟨g, cap, x, Nat.le_trans hB h1, h2, h3, h4, Nest.mono hB h5⟩

theorem Nest.iface {w : World} {B : Nat} : ∀ {k : Nat} {v : Value}, Nest w B k v → ∃ a n c, v = .iface 70 (.slice a n c)
  | 0, _, ⟨_g, _, h2⟩ => ⟨_, _, _, h2⟩
  | _k + 1, _, ⟨_g, _cap, _, _, _, h3, _⟩ => ⟨_, _, _, h3⟩

set_option maxHeartbeats 1000000 in
theorem arr_zero (L most : Int) (k B : Nat) (r : Bool) (w : World) (hL : L ≤ most) (hm : 0 < most) (hB : w.heap[B]? = some (.cells #[.string (Br 1 (k + 1))] 9 (0, 0))) :
    Calls Tryz.prog 105 #[.agg #[], .pointer (some ⟨B, 0, none⟩), .int .i64 L, .int .i64 most, .bool r] w fun e w' =>
      ∃ q g, e = .returned (.tuple #[.pointer (some ⟨q, 0, none⟩), .nilIface]) ∧ w.heap.size ≤ q ∧ w.heap.size ≤ g ∧ w'.cell? ⟨q, 0, none⟩ = some (.slice (some ⟨g, 0, none⟩) 0 0) ∧ w'.heap[B]? = some (.cells #[.string (Br 0 k)] 9 (0, 0)) ∧ Kept [B] w w' := by
  have hc := one_cell hB
  have hf := one_free hB 0
  have hlt := lt_of_block hB
  have H := Lib.hid hB; clear hB
  obtain ⟨l1, l2, l3, l4, l5, l6⟩ := lt6 hlt
  have z1 : (((Br 1 (k + 1)).size : Int) == 0) = false := by rw [Br_size, beq_eq_false_iff_ne]; omega
  have z2 : (((Br 1 (k + 1)).size : Int) == 1) = false := by rw [Br_size, beq_eq_false_iff_ne]; omega
  have z3 : (((Br 0 (k + 1)).size : Int) == 0) = false := by rw [Br_size, beq_eq_false_iff_ne]; omega
  go_enter Tryz.func105, Tryz.ntmps105
  go_wp2_with (first | (go_at_call 79; refine (check_ok _ _ _ _ hm hL).mono ?_; rintro e w' ⟨rfl, rfl⟩) | (go_at_call 130; refine (hasp_open _ _ _).mono ?_; rintro e w' ⟨rfl, rfl⟩) | (go_at_call 130; refine (hasp_close _ _).mono ?_; rintro e w' ⟨rfl, rfl⟩) | (go_at_call 110; refine (fwd_open _ _ _ (by omega)).mono ?_; rintro e w' ⟨rfl, rfl⟩) | (go_at_call 80; refine (trim_br _ _ _ (by omega)).mono ?_; rintro e w' ⟨rfl, rfl⟩))
  refine wp_loop_once ?_
  go_wp2_with (first | (go_at_call 130; refine (hasp_close _ _).mono ?_; rintro e w' ⟨rfl, rfl⟩) | (go_at_call 110; refine (fwd_close _ _).mono ?_; rintro e w' ⟨rfl, rfl⟩))
  go_ret2
  refine ⟨_, w.heap.size + 1 + 1 + 1, rfl, by omega, by omega, ?_, ?_, ?_⟩
  · rw [World.cell?_alloc_at _ _ _ _ (by simp)]; rfl
  · repeat rw [Below.heap_alloc _ _ _ (by simp [World.setCell]; omega)]
    exact one_set H.out _
  · exact (((((((Kept.refl [B] w).setCell (.inr (List.mem_singleton.2 rfl)) _).alloc _).alloc _).alloc _).alloc _).alloc _)
end Go.Proofs.YtfkecmlmnhbmoaaGreatDoor
namespace Go.Proofs.YtfkecmlmnhbmoaaGreatDoor
open Go.RowKit
def CtxOk (j : Nat) : Prop := ∀ (most L : Int) (k B : Nat) (r : Bool) (w : World), L = (k : Int) → (k : Int) + j ≤ most → most ≤ 1000 → 0 < most → w.heap[B]? = some (.cells #[.string (Br (j + 1) (j + 1 + k))] 9 (0, 0)) →
    Calls Tryz.prog 64 #[.agg #[], .pointer (some ⟨B, 0, none⟩), .int .i64 L, .int .i64 most, .bool r] w fun e w' =>
      ∃ v, e = .returned (.tuple #[v, .nilIface]) ∧ Nest w' w.heap.size j v ∧ w'.heap[B]? = some (.cells #[.string (Br 0 k)] 9 (0, 0)) ∧ Kept [B] w w'
def ArrOk (j : Nat) : Prop := ∀ (most L : Int) (k B : Nat) (r : Bool) (w : World), L = (k : Int) → (k : Int) + j ≤ most → most ≤ 1000 → 0 < most → w.heap[B]? = some (.cells #[.string (Br (j + 1) (j + 1 + k))] 9 (0, 0)) →
    Calls Tryz.prog 105 #[.agg #[], .pointer (some ⟨B, 0, none⟩), .int .i64 L, .int .i64 most, .bool r] w fun e w' =>
      ∃ q s, e = .returned (.tuple #[.pointer (some ⟨q, 0, none⟩), .nilIface]) ∧ w.heap.size ≤ q ∧ w'.cell? ⟨q, 0, none⟩ = some s ∧ Nest w' w.heap.size j (.iface 70 s) ∧ w'.heap[B]? = some (.cells #[.string (Br 0 k)] 9 (0, 0)) ∧ Kept [B] w w'

theorem arr_ok0 : ArrOk 0 := by
  intro most L k B r w hLk h1 h2 h3 hB
  rw [show 0 + 1 + k = k + 1 from by omega] at hB
  refine (arr_zero L most k B r w (by omega) h3 hB).mono ?_
  rintro e w' ⟨q, g, rfl, hq, hg, hc, hb, hk⟩
  exact ⟨q, _, rfl, hq, hc, ⟨g, hg, rfl⟩, hb, hk⟩

theorem Tryz.info66 : (Tryz.prog.info? 66).map (fun i => (i.zero, i.size, i.bytes)) = some (some .nilIface, 1, 16) := by kernel_rfl

set_option maxRecDepth 100000 in
set_option maxHeartbeats 1000000 in
theorem arr_succ (j : Nat) (hctx : CtxOk j) : ArrOk (j + 1) := by
  intro most L k B r w hLk0 hL h1000 hm hB
  have HLk := Lib.hid hLk0; have hLlo : 0 ≤ L := by omega
  have hLhi : L ≤ 1000 := by omega
  have hc := one_cell hB
  have hf := one_free hB 0
  have hlt := lt_of_block hB
  have H := Lib.hid hB; clear hB
  obtain ⟨l1, l2, l3, l4, l5, l6⟩ := lt6 hlt
  have e1 : j + 1 + 1 + k = j + 1 + (k + 1) := by omega
  rw [e1] at hc
  have He1 := Lib.hid e1; clear e1
  have z1 : (((Br (j + 1 + 1) (j + 1 + (k + 1))).size : Int) == 0) = false := by rw [Br_size, beq_eq_false_iff_ne]; omega
  have z2 : (((Br (j + 1 + 1) (j + 1 + (k + 1))).size : Int) == 1) = false := by rw [Br_size, beq_eq_false_iff_ne]; omega
  have z3 : (((Br (j + 1) (j + 1 + (k + 1))).size : Int) == 0) = false := by rw [Br_size, beq_eq_false_iff_ne]; omega
  have z4 : (((Br 0 (k + 1)).size : Int) == 0) = false := by rw [Br_size, beq_eq_false_iff_ne]; omega
  have hLk : L ≤ most := by omega
  have HL := Lib.hid hL; clear hLk0 hL
  have Hctx := Lib.hid hctx; clear hctx
  go_enter Tryz.func105, Tryz.ntmps105
  go_wp2_with (first | (go_at_call 79; refine (check_ok _ _ _ _ hm hLk).mono ?_; rintro e w' ⟨rfl, rfl⟩) | (go_at_call 130; refine (hasp_open _ _ _).mono ?_; rintro e w' ⟨rfl, rfl⟩) | (go_at_call 110; refine (fwd_open _ _ _ (by omega)).mono ?_; rintro e w' ⟨rfl, rfl⟩) | (go_at_call 80; refine (trim_br _ _ _ (by omega)).mono ?_; rintro e w' ⟨rfl, rfl⟩))
  refine wp_loop_rounds 2 ?_
  rw [rounds_succ]
  go_wp2_with (first | (go_at_call 130; refine (hasp_no _ _ _).mono ?_; rintro e w' ⟨rfl, rfl⟩))
  refine (Hctx.out most _ (k + 1) (w.heap.size + 1) r _ (by have := HLk.out; omega) (by have := HL.out; omega) h1000 hm ?_).mono ?_
  case _ => rw [heap_lt, heap_lt, heap_lt, heap_at] <;> (first | rfl | omega | (simp only [World.size_alloc]; omega) | (simp only [World.size_alloc]) | (simp; omega))
  rintro e w1 ⟨v, rfl, hnest, hl1, hk1⟩
  obtain ⟨va, vn, vc, rfl⟩ := hnest.iface
  have q1 := hk1.size
  simp only [World.size_alloc] at q1 hnest
  have hkw : Kept [] w w1 := Kept.trans (Z := []) ((((((Kept.refl [] w).alloc _).alloc _).alloc _).alloc _).alloc _) hk1 (by simp) (fun y hy hl => by simp at hy; omega)
  have ca : w1.cell? ⟨w.heap.size + 1 + 1 + 1 + 1, 0, none⟩ = some (.slice (some ⟨w.heap.size + 1 + 1 + 1, 0, none⟩) 0 0) := by
    rw [hk1.cell (by first | omega | (simp only [World.size_alloc]; omega) | (simp; omega)) (by first | (simp only [List.mem_singleton]; omega) | (simp; omega) | simp), World.cell?_alloc_at _ _ _ _ (by simp)]; rfl
  have fa : w1.frozen? ⟨w.heap.size + 1 + 1 + 1 + 1, 0, none⟩ = false := by
    rw [hk1.frozen (by first | omega | (simp only [World.size_alloc]; omega) | (simp; omega)) (by first | (simp only [List.mem_singleton]; omega) | (simp; omega) | simp), World.frozen?_alloc_at _ _ _ _ (by simp)]
  have ba : w1.heap[w.heap.size + 1 + 1 + 1]? = some (.cells #[] 66 (0, 0)) := by
    rw [hk1.block _ (by first | omega | (simp only [World.size_alloc]; omega) | (simp; omega)) (by first | (simp only [List.mem_singleton]; omega) | (simp; omega) | simp), heap_lt, heap_at] <;> (first | rfl | omega | (simp only [World.size_alloc]; omega) | (simp only [World.size_alloc]) | (simp; omega))
  have cl := one_cell hl1
  have fl := one_free hl1 0
  have Hl1 := Lib.hid hl1; have Hk1 := Lib.hid hk1; have Hkw := Lib.hid hkw; have Hba := Lib.hid ba; have Hn := Lib.hid hnest
  clear hl1 hk1 hkw ba hnest l1 l2 l3 l4 l5 l6 hc hf z1 z2 z3
  obtain ⟨l1, l2, l3, l4, l5, l6⟩ := lt6 (show w.heap.size + 1 < w1.heap.size by omega)
  obtain ⟨m1, m2, m3, m4, m5, m6⟩ := lt6 (show w.heap.size + 1 + 1 + 1 + 1 < w1.heap.size by omega)
  have hown : w1.ownsRow w.heap.size 66 1 (.slice (some ⟨w.heap.size + 1 + 1 + 1, 0, none⟩) 0 0) 0 [] :=
    ⟨rfl, Or.inr ⟨w.heap.size + 1 + 1 + 1, 0, #[], rfl, by omega, Hba.out, Nat.le_refl _, by decide, rfl, rfl⟩⟩
  obtain ⟨i0, hi, hz0, hz1, hz2⟩ := info_parts Tryz.info66
  go_wp2_with (at_builtin; go_must (refine wpList_append_own _ rfl _ _ 70 rfl w.heap.size 66 i0 .nilIface 1 16 Tryz.underlying70 hi hz0 hz1 hz2 rfl (by decide) _ 0 [] rfl (hown.alloc _) ⟨w1.heap.size, 0, none⟩ 1 1 [.iface 70 (.slice va vn vc)] rfl rfl ?c1 ?c2 ?c3 ?c4 ?c5 ?_))
  case c1 => exact cell_one_new _ _ _
  case c2 => simp [Value.oneCell']
  case c3 => decide
  case c4 => decide
  case c5 => first | rfl | omega | (simp only [World.size_alloc]; omega) | (simp only [World.size_alloc, World.size_setCell, World.size_drew]) | (simp; omega)
  intro v2 w2 hown2 hg2 _
  have hk2 : Kept [w.heap.size + 1 + 1 + 1] w1 w2 :=
    Kept.trans (X := []) ((Kept.refl [] w1).alloc _) (Kept.of_grown hg2 (fun k hk => by simp [Value.ownBlock] at hk; simp [hk])) (by simp) (fun y hy _ => hy)
  obtain ⟨hlen, ho | ⟨g2, cap, cur, hv2, hg3, hh, hcap1, hcap2, hcs, htk⟩⟩ := hown2
  · exact absurd ho.2 (by decide)
  subst hv2
  have q2 := hk2.size
  have cl2 := (hk2.cell (b := w.heap.size + 1) (o := 0) (by omega) (by first | (simp only [List.mem_singleton]; omega) | (simp; omega) | simp)).trans cl
  have fl2 := (hk2.frozen (b := w.heap.size + 1) (o := 0) (by omega) (by first | (simp only [List.mem_singleton]; omega) | (simp; omega) | simp)).trans fl
  have ca2 := (hk2.cell (b := w.heap.size + 1 + 1 + 1 + 1) (o := 0) (by omega) (by first | (simp only [List.mem_singleton]; omega) | (simp; omega) | simp)).trans ca
  have fa2 := (hk2.frozen (b := w.heap.size + 1 + 1 + 1 + 1) (o := 0) (by omega) (by first | (simp only [List.mem_singleton]; omega) | (simp; omega) | simp)).trans fa
  have cB2 := (hk2.cell (b := B) (o := 0) (by omega) (by first | (simp only [List.mem_singleton]; omega) | (simp; omega) | simp)).trans ((Hkw.out.cell hlt (by simp)).trans (one_cell H.out))
  have fB2 := (hk2.frozen (b := B) (o := 0) (by omega) (by first | (simp only [List.mem_singleton]; omega) | (simp; omega) | simp)).trans ((Hkw.out.frozen hlt (by simp)).trans (one_free H.out 0))
  have Hk2 := Lib.hid hk2
  clear hk2 hg2 cl fl ca fa hown l1 l2 l3 l4 l5 l6 m1 m2 m3 m4 m5 m6
  have Hlen := Lib.hid hlen; have Hhh := Lib.hid hh; have Hcs := Lib.hid hcs; have Htk := Lib.hid htk
  clear hlen hh hcs htk hi hz0 hz1 hz2
  obtain ⟨l1, l2, l3, l4, l5, l6⟩ := lt6 (show w.heap.size + 1 < w2.heap.size by omega)
  obtain ⟨m1, m2, m3, m4, m5, m6⟩ := lt6 (show w.heap.size + 1 + 1 + 1 + 1 < w2.heap.size by omega)
  obtain ⟨n1, n2, n3, n4, n5, n6⟩ := lt6 (show B < w2.heap.size by omega)
  have l0 : w.heap.size + 1 < w2.heap.size := by omega
  have m0 : w.heap.size + 1 + 1 + 1 + 1 < w2.heap.size := by omega
  have n0 : B < w2.heap.size := by omega
  have r1 := fun (X : World) (u : Value) => cell_set_other (show w.heap.size + 1 ≠ B by omega) 0 0 X u
  have r2 := fun (X : World) (u : Value) => cell_set_other (show w.heap.size + 1 + 1 + 1 + 1 ≠ B by omega) 0 0 X u
  have r1' := fun (X : World) (u : Value) => cell_set_other (show w.heap.size + 1 ≠ w.heap.size + 1 + 1 + 1 + 1 by omega) 0 0 X u
  have r3 := fun (X : World) (u : Value) => cell_set_other (show w.heap.size + 1 + 1 + 1 + 1 ≠ w.heap.size + 1 by omega) 0 0 X u
  go_wp2_with (first | (go_at_call 80; refine (trim_br _ _ _ (by omega)).mono ?_; rintro e w' ⟨rfl, rfl⟩))
  rw [rounds_succ]
  go_wp2_with (first | (go_at_call 130; refine (hasp_close _ _).mono ?_; rintro e w' ⟨rfl, rfl⟩) | (go_at_call 110; refine (fwd_close _ _).mono ?_; rintro e w' ⟨rfl, rfl⟩))
  go_ret2
  have K2 : Kept [] w w2 := Hkw.out.trans Hk2.out (by simp) (fun y hy hl => by simp at hy; omega)
  have b2l : w2.heap[w.heap.size + 1]? = some (.cells #[.string (Br 0 (k + 1))] 9 (0, 0)) := (Hk2.out.block _ (by omega) (by first | (simp only [List.mem_singleton]; omega) | (simp; omega) | simp)).trans Hl1.out
  have b2B : w2.heap[B]? = some (.cells #[.string (Br (j + 1 + 1) (j + 1 + 1 + k))] 9 (0, 0)) := (K2.block _ hlt (by simp)).trans H.out
  have b2a : w2.heap[w.heap.size + 1 + 1 + 1 + 1]? = some (.cells #[.slice (some ⟨w.heap.size + 1 + 1 + 1, 0, none⟩) 0 0] 70 (0, 0)) := by
    rw [Hk2.out.block _ (by omega) (by first | (simp only [List.mem_singleton]; omega) | (simp; omega) | simp), Hk1.out.block _ (by first | omega | (simp only [World.size_alloc]; omega) | (simp; omega)) (by first | (simp only [List.mem_singleton]; omega) | (simp; omega) | simp), heap_at] <;> (first | rfl | omega | (simp only [World.size_alloc]; omega) | (simp only [World.size_alloc]) | (simp; omega))
  have gl : g2 ≠ w.heap.size + 1 := by rintro rfl; rw [b2l] at Hhh; have := Hhh.out; simp at this
  have gB : g2 ≠ B := by rintro rfl; rw [b2B] at Hhh; have := Hhh.out; simp at this
  have ga : g2 ≠ w.heap.size + 1 + 1 + 1 + 1 := by rintro rfl; rw [b2a] at Hhh; have := Hhh.out; simp at this
  have hg2lt := lt_of_block Hhh.out
  have c2g : w2.cell? ⟨g2, 0, none⟩ = some (.iface 70 (.slice va vn vc)) := by
    have h1 := Hhh.out
    have h2 := Htk.out
    simp only [World.cell?, h1]
    have h3 : (cur.toList.take (1 * 1))[0]? = some (.iface 70 (.slice va vn vc)) := by rw [h2]; rfl
    simpa using h3
  have KF : ∀ (X : World), Kept [w.heap.size + 1 + 1 + 1 + 1, w.heap.size + 1, B] w2 X → Nest X (w.heap.size + 1 + 1 + 1 + 1 + 1) j (.iface 70 (.slice va vn vc)) := fun X hX =>
    (Hn.out.kept Hk2.out (by simp)).kept hX (by simp; omega)
  have KK : Kept [w.heap.size + 1 + 1 + 1 + 1, w.heap.size + 1, B] w2 (((((w2.setCell ⟨w.heap.size + 1 + 1 + 1 + 1, 0, none⟩ (.slice (some ⟨g2, 0, none⟩) 1 cap)).setCell ⟨w.heap.size + 1, 0, none⟩ (.string (Br 0 (k + 1)))).setCell ⟨w.heap.size + 1, 0, none⟩ (.string (Br 0 k))).setCell ⟨B, 0, none⟩ (.string (Br 0 k))).alloc (.stringIter (Br 0 (k + 1)) 1)) :=
    (((((Kept.refl _ w2).setCell (.inr (by simp)) _).setCell (.inr (by simp)) _).setCell (.inr (by simp)) _).setCell (.inr (by simp)) _).alloc _
  refine ⟨w.heap.size + 1 + 1 + 1 + 1, .slice (some ⟨g2, 0, none⟩) 1 cap, rfl, by omega, ?_, ⟨g2, cap, _, hg3, Nat.lt_of_lt_of_le hg2lt KK.size, rfl, ?_, Nest.mono (by omega) (KF _ KK)⟩, ?_, ?_⟩
  · rw [World.cell?_alloc_lt, cell_set_other (by omega), r1', r1', World.cell?_setCell_same _ _ _ ca2]
    simp [World.setCell]; omega
  · rw [KK.cell hg2lt (by simp; omega)]
    exact c2g
  · rw [heap_lt (by simp [World.setCell]; omega)]
    refine one_set (v := .string (Br (j + 1 + 1) (j + 1 + 1 + k))) ?_ _
    rw [heap_set, heap_set, heap_set, b2B] <;> (simp; omega)
  · exact (((((K2.mono (Y := [B]) (by simp)).setCell (.inl (by simp; omega)) _).setCell (.inl (by simp)) _).setCell (.inl (by simp)) _).setCell (.inr (by simp)) _).alloc _
end Go.Proofs.YtfkecmlmnhbmoaaGreatDoor
namespace Go.Proofs.YtfkecmlmnhbmoaaGreatDoor
open Go.RowKit
set_option maxRecDepth 100000 in
set_option maxHeartbeats 1000000 in
theorem val_ok (j : Nat) (harr : ArrOk j) (most L : Int) (k B : Nat) (r : Bool) (w : World) (hLk : L = (k : Int)) (hL : (k : Int) + j ≤ most) (h1000 : most ≤ 1000) (hm : 0 < most) (hB : w.heap[B]? = some (.cells #[.string (Br (j + 1) (j + 1 + k))] 9 (0, 0))) :
    Calls Tryz.prog 81 #[.agg #[], .pointer (some ⟨B, 0, none⟩), .int .i64 L, .int .i64 most, .bool r] w fun e w' =>
      ∃ v, e = .returned (.tuple #[v, .nilIface]) ∧ Nest w' w.heap.size j v ∧ w'.heap[B]? = some (.cells #[.string (Br 0 k)] 9 (0, 0)) ∧ Kept [B] w w' := by
  have hc := one_cell hB
  have hlt := lt_of_block hB
  have H := Lib.hid hB; have HLk := Lib.hid hLk; have HL := Lib.hid hL; clear hB hLk hL
  have h0 : 0 < (Br (j + 1) (j + 1 + k)).size := by rw [Br_size]; omega
  have hf := congrArg (fun x : UInt8 => (x.toNat : Int)) (Br_first j (j + 1 + k) h0)
  simp only [UInt8.reduceToNat] at hf
  have Harr := Lib.hid harr; clear harr
  go_enter Tryz.func81, Tryz.ntmps81
  go_wp2_with fail
  refine (Harr.out most _ k B r _ HLk.out HL.out h1000 hm ?_).mono ?_
  case _ => rw [heap_lt hlt]; exact H.out
  rintro e w1 ⟨q, s, rfl, hq, hcq, hn, hb1, hk1⟩
  obtain ⟨va, vn, vc, hs⟩ := hn.iface
  obtain rfl : s = .slice va vn vc := by injection hs
  simp only [World.size_alloc] at hn hq
  have Hn := Lib.hid hn; have Hb1 := Lib.hid hb1; have Hk1 := Lib.hid hk1; clear hn hb1 hk1 hs hc hf
  go_wp2_with fail
  go_ret2
  exact ⟨_, rfl, Nest.mono (by omega) Hn.out, Hb1.out, Kept.trans (Z := [B]) ((Kept.refl [] w).alloc _) Hk1.out (by simp) (fun y hy _ => hy)⟩
set_option maxRecDepth 100000 in
set_option maxHeartbeats 1000000 in
theorem ctx_of_val (j : Nat) (harr : ArrOk j) : CtxOk j := by
  intro most L k B r w hLk hL h1000 hm hB
  have hLm : L ≤ most := by omega
  have hc := one_cell hB
  have hlt := lt_of_block hB
  have H := Lib.hid hB; have HLk := Lib.hid hLk; have HL := Lib.hid hL; clear hB hLk hL
  have z1 : (((Br (j + 1) (j + 1 + k)).size : Int) == 0) = false := by rw [Br_size, beq_eq_false_iff_ne]; omega
  have Harr := Lib.hid harr; clear harr
  have hca := hc
  go_enter Tryz.func64, Tryz.ntmps64
  go_wp2_with (first | (go_at_call 79; refine (check_ok _ _ _ _ hm hLm).mono ?_; rintro e w' ⟨rfl, rfl⟩) | (go_at_call 62; refine (nobuf _ (Br (j + 1) (j + 1 + k)) _ (by simp [go_sem, hc, hlt]) z1).mono ?_; rintro e w' ⟨rfl, rfl⟩) | (go_at_call 80; refine (trim_br _ _ _ (by omega)).mono ?_; rintro e w' ⟨rfl, rfl⟩))
  refine (val_ok j Harr.out most _ k (w.heap.size + 1) r _ HLk.out HL.out h1000 hm ?_).mono ?_
  case _ => rw [heap_lt, heap_at] <;> (first | rfl | omega | (simp only [World.size_alloc]; omega) | (simp only [World.size_alloc]) | (simp; omega))
  rintro e w1 ⟨v, rfl, hn, hb1, hk1⟩
  have q1 := hk1.size
  simp only [World.size_alloc] at hn q1
  have K1 : Kept [] w w1 := Kept.trans (Z := []) ((((Kept.refl [] w).alloc _).alloc _).alloc _) hk1 (by simp) (fun y hy hl => by simp at hy; omega)
  have cB := (K1.cell (o := 0) hlt (by simp)).trans (one_cell H.out)
  have fB := (K1.frozen (o := 0) hlt (by simp)).trans (one_free H.out 0)
  have cl := one_cell hb1
  obtain ⟨va, vn, vc, rfl⟩ := hn.iface
  have Hn := Lib.hid hn; have Hk1 := Lib.hid K1; clear hn hb1 hk1 K1 hc hca z1
  go_wp2_with fail
  go_ret2
  refine ⟨_, rfl, ?_, one_set ((Hk1.out.block _ hlt (by simp)).trans H.out) _, (Hk1.out.mono (Y := [B]) (by simp)).setCell (.inr (by simp)) _⟩
  refine Nest.mono (by omega) (Hn.out.kept (X := [B]) ((Kept.refl _ w1).setCell (.inr (by simp)) _) (by simp; omega))
theorem arr_all : ∀ j, ArrOk j
  | 0 => arr_ok0
  | j + 1 => arr_succ j (ctx_of_val j (arr_all j))
theorem ctx_ok (j : Nat) : CtxOk j := ctx_of_val j (arr_all j)
#print axioms ctx_ok
end Go.Proofs.YtfkecmlmnhbmoaaGreatDoor
namespace Go.Proofs.YtfkecmlmnhbmoaaGreatDoor
open Go.RowKit
def errV (a0 : Addr) : Value := .iface 171 (.pointer (some a0))
def CtxNo (d : Nat) : Prop := ∀ (most L : Int) (j k B : Nat) (a0 : Addr) (r : Bool) (w : World), L = (k : Int) → (k : Int) + d = most + 1 → d ≤ j → most ≤ 1000 → 0 < most → w.heap[B]? = some (.cells #[.string (Br (j + 1) (j + 1 + k))] 9 (0, 0)) →
    w.cell? ⟨1, 0, none⟩ = some (errV a0) → B ≠ 1 →
    Calls Tryz.prog 64 #[.agg #[], .pointer (some ⟨B, 0, none⟩), .int .i64 L, .int .i64 most, .bool r] w fun e w' =>
      e = .returned (.tuple #[.nilIface, errV a0]) ∧ Kept [] w w'
theorem lt_of_cell {w : World} {b o : Nat} {v : Value} (h : w.cell? ⟨b, o, none⟩ = some v) : b < w.heap.size := by
  unfold World.cell? at h
  rcases Nat.lt_or_ge b w.heap.size with g | g
  · exact g
  · simp [Array.getElem?_eq_none g] at h
set_option maxRecDepth 100000 in
set_option maxHeartbeats 1000000 in
theorem ctx_no0 : CtxNo 0 := by
  intro most L j k B a0 r w hLk hL _ h1000 hm hB hv hB1
  have hLm : most < L := by omega
  have hc := one_cell hB
  have hlt := lt_of_block hB
  have h1lt := lt_of_cell hv
  clear hB hLk hL
  have z1 : (((Br (j + 1) (j + 1 + k)).size : Int) == 0) = false := by rw [Br_size, beq_eq_false_iff_ne]; omega
  unfold errV at hv ⊢
  go_enter Tryz.func64, Tryz.ntmps64
  go_wp2_with (first | (go_at_call 79; refine (check_no _ _ _ (.iface 171 (.pointer (some a0))) _ hm hLm (by simp [go_sem, hv, h1lt])).mono ?_; rintro e w' ⟨rfl, rfl⟩) | (go_at_call 62; refine (nobuf _ (Br (j + 1) (j + 1 + k)) _ (by simp [go_sem, hc, hlt]) z1).mono ?_; rintro e w' ⟨rfl, rfl⟩))
  go_ret2
  exact ⟨rfl, (Kept.refl _ _).alloc _⟩
set_option maxRecDepth 100000 in
set_option maxHeartbeats 1000000 in
theorem arr_no (d : Nat) (hctx : CtxNo d) (most L : Int) (j k B : Nat) (a0 : Addr) (r : Bool) (w : World) (hLk : L = (k : Int)) (hL : (k : Int) + (d + 1) = most + 1) (hd : d + 1 ≤ j) (h1000 : most ≤ 1000) (hm : 0 < most)
    (hB : w.heap[B]? = some (.cells #[.string (Br (j + 1) (j + 1 + k))] 9 (0, 0))) (hv : w.cell? ⟨1, 0, none⟩ = some (errV a0)) :
    Calls Tryz.prog 105 #[.agg #[], .pointer (some ⟨B, 0, none⟩), .int .i64 L, .int .i64 most, .bool r] w fun e w' =>
      e = .returned (.tuple #[.pointer none, errV a0]) ∧ Kept [] w w' := by
  obtain ⟨j, rfl⟩ : ∃ m, j = m + 1 := ⟨j - 1, by omega⟩
  have hc := one_cell hB
  have hlt := lt_of_block hB
  have h1lt := lt_of_cell hv
  have hLm : L ≤ most := by omega
  have hLlo : 0 ≤ L := by omega
  have hLhi : L ≤ 1000 := by omega
  have HLk := Lib.hid hLk; have HL := Lib.hid hL; have Hd := Lib.hid hd; clear hB hLk hL hd
  have e1 : j + 1 + 1 + k = j + 1 + (k + 1) := by omega
  rw [e1] at hc
  clear e1
  have z1 : (((Br (j + 1 + 1) (j + 1 + (k + 1))).size : Int) == 0) = false := by rw [Br_size, beq_eq_false_iff_ne]; omega
  have z2 : (((Br (j + 1 + 1) (j + 1 + (k + 1))).size : Int) == 1) = false := by rw [Br_size, beq_eq_false_iff_ne]; omega
  have z3 : (((Br (j + 1) (j + 1 + (k + 1))).size : Int) == 0) = false := by rw [Br_size, beq_eq_false_iff_ne]; omega
  have Hctx := Lib.hid hctx; clear hctx
  go_enter Tryz.func105, Tryz.ntmps105
  go_wp2_with (first | (go_at_call 79; refine (check_ok _ _ _ _ hm hLm).mono ?_; rintro e w' ⟨rfl, rfl⟩) | (go_at_call 130; refine (hasp_open _ _ _).mono ?_; rintro e w' ⟨rfl, rfl⟩) | (go_at_call 110; refine (fwd_open _ _ _ (by omega)).mono ?_; rintro e w' ⟨rfl, rfl⟩) | (go_at_call 80; refine (trim_br _ _ _ (by omega)).mono ?_; rintro e w' ⟨rfl, rfl⟩))
  refine wp_loop_rounds 1 ?_
  rw [rounds_succ]
  go_wp2_with (first | (go_at_call 130; refine (hasp_no _ _ _).mono ?_; rintro e w' ⟨rfl, rfl⟩))
  refine (Hctx.out most _ j (k + 1) (w.heap.size + 1) a0 r _ (by have := HLk.out; omega) (by have := HL.out; omega) (by have := Hd.out; omega) h1000 hm ?_ ?_ (by omega)).mono ?_
  case _ => rw [heap_lt, heap_lt, heap_lt, heap_at] <;> (first | rfl | omega | (simp only [World.size_alloc]; omega) | (simp only [World.size_alloc]) | (simp; omega))
  case _ => exact (((((((Kept.refl [] w).alloc _).alloc _).alloc _).alloc _).alloc _).cell h1lt (by simp)).trans hv
  rintro e w1 ⟨rfl, hk1⟩
  have K1 : Kept [] w w1 := Kept.trans (Z := []) ((((((Kept.refl [] w).alloc _).alloc _).alloc _).alloc _).alloc _) hk1 (by simp) (by simp)
  have HK := Lib.hid K1; clear K1 hk1 hv hc z1 z2 z3
  unfold errV
  go_wp2_with fail
  go_ret2
  exact ⟨rfl, HK.out⟩
set_option maxRecDepth 100000 in
set_option maxHeartbeats 1000000 in
theorem val_no (d : Nat) (hctx : CtxNo d) (most L : Int) (j k B : Nat) (a0 : Addr) (r : Bool) (w : World) (hLk : L = (k : Int)) (hL : (k : Int) + (d + 1) = most + 1) (hd : d + 1 ≤ j) (h1000 : most ≤ 1000) (hm : 0 < most)
    (hB : w.heap[B]? = some (.cells #[.string (Br (j + 1) (j + 1 + k))] 9 (0, 0))) (hv : w.cell? ⟨1, 0, none⟩ = some (errV a0)) :
    Calls Tryz.prog 81 #[.agg #[], .pointer (some ⟨B, 0, none⟩), .int .i64 L, .int .i64 most, .bool r] w fun e w' =>
      e = .returned (.tuple #[.nilIface, errV a0]) ∧ Kept [] w w' := by
  have hc := one_cell hB
  have hlt := lt_of_block hB
  have h1lt := lt_of_cell hv
  have H := Lib.hid hB; have HLk := Lib.hid hLk; have HL := Lib.hid hL; have Hd := Lib.hid hd; clear hB hLk hL hd
  have h0 : 0 < (Br (j + 1) (j + 1 + k)).size := by rw [Br_size]; omega
  have hf := congrArg (fun x : UInt8 => (x.toNat : Int)) (Br_first j (j + 1 + k) h0)
  simp only [UInt8.reduceToNat] at hf
  have Hctx := Lib.hid hctx; clear hctx
  go_enter Tryz.func81, Tryz.ntmps81
  go_wp2_with fail
  refine (arr_no d Hctx.out most _ j k B a0 r _ HLk.out HL.out Hd.out h1000 hm ?_ ?_).mono ?_
  case _ => rw [heap_lt hlt]; exact H.out
  case _ => exact (((Kept.refl [] w).alloc _).cell h1lt (by simp)).trans hv
  rintro e w1 ⟨rfl, hk1⟩
  have K1 : Kept [] w w1 := Kept.trans (Z := []) ((Kept.refl [] w).alloc _) hk1 (by simp) (by simp)
  have HK := Lib.hid K1; clear K1 hk1 hv hc hf
  unfold errV
  go_wp2_with fail
  go_ret2
  exact ⟨rfl, HK.out⟩
set_option maxRecDepth 100000 in
set_option maxHeartbeats 1000000 in
theorem ctx_no_succ (d : Nat) (hctx : CtxNo d) : CtxNo (d + 1) := by
  intro most L j k B a0 r w hLk hL hd h1000 hm hB hv hB1
  have hLm : L ≤ most := by omega
  have hc := one_cell hB
  have hlt := lt_of_block hB
  have h1lt := lt_of_cell hv
  have H := Lib.hid hB; have HLk := Lib.hid hLk; have HL := Lib.hid hL; have Hd := Lib.hid hd; clear hB hLk hL hd
  have z1 : (((Br (j + 1) (j + 1 + k)).size : Int) == 0) = false := by rw [Br_size, beq_eq_false_iff_ne]; omega
  have Hctx := Lib.hid hctx; clear hctx
  go_enter Tryz.func64, Tryz.ntmps64
  go_wp2_with (first | (go_at_call 79; refine (check_ok _ _ _ _ hm hLm).mono ?_; rintro e w' ⟨rfl, rfl⟩) | (go_at_call 62; refine (nobuf _ (Br (j + 1) (j + 1 + k)) _ (by simp [go_sem, hc, hlt]) z1).mono ?_; rintro e w' ⟨rfl, rfl⟩) | (go_at_call 80; refine (trim_br _ _ _ (by omega)).mono ?_; rintro e w' ⟨rfl, rfl⟩))
  refine (val_no d Hctx.out most _ j k (w.heap.size + 1) a0 r _ HLk.out (by have := HL.out; omega) Hd.out h1000 hm ?_ ?_).mono ?_
  case _ => rw [heap_lt, heap_at] <;> (first | rfl | omega | (simp only [World.size_alloc]; omega) | (simp only [World.size_alloc]) | (simp; omega))
  case _ => exact (((((Kept.refl [] w).alloc _).alloc _).alloc _).cell h1lt (by simp)).trans hv
  rintro e w1 ⟨rfl, hk1⟩
  have K1 : Kept [] w w1 := Kept.trans (Z := []) ((((Kept.refl [] w).alloc _).alloc _).alloc _) hk1 (by simp) (by simp)
  have HK := Lib.hid K1; clear K1 hk1 hv hc z1
  unfold errV
  go_wp2_with fail
  go_ret2
  exact ⟨rfl, HK.out⟩
theorem ctx_no : ∀ d, CtxNo d
  | 0 => ctx_no0
  | d + 1 => ctx_no_succ d (ctx_no d)
#print axioms ctx_no
end Go.Proofs.YtfkecmlmnhbmoaaGreatDoor
