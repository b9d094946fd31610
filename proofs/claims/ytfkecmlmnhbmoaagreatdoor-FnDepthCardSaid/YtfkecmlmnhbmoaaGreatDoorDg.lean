import Derived.Test.YtfkecmlmnhbmoaaGreatDoorDf
namespace Go.Proofs.YtfkecmlmnhbmoaaGreatDoor
open Go.RowKit
def errV (a0 : Addr) : Value := .iface 171 (.pointer (some a0))
def CtxNo (d : Nat) : Prop := ∀ (most L : Int) (j k B : Nat) (a0 : Addr) (r : Bool) (w : World), L = (k : Int) → (k : Int) + d = most + 1 → d ≤ j → most ≤ 1000 → 0 < most → w.heap[B]? = some (.cells #[.string (Br (j + 1) (j + 1 + k))] 9 (0, 0)) →
    w.cell? ⟨1, 0, none⟩ = some (errV a0) → B ≠ 1 →
    Calls Tryz.prog 64 #[.agg #[], .pointer (some ⟨B, 0, none⟩), .int .i64 L, .int .i64 most, .bool r] w fun e w' =>
      e = .returned (.tuple #[.nilIface, errV a0]) ∧ Kept [] w w'
theorem lt_of_cell {w : World} {b o : Nat} {v : Value} (h : w.cell? ⟨b, o, none⟩ = some v) : b < w.heap.size := by
  unfold World.cell? at h
  rcases Nat.lt_or_ge b w.heap.size with g | g
  · exact g
  · simp [Array.getElem?_eq_none g] at h
set_option maxRecDepth 100000 in
set_option maxHeartbeats 1000000 in
theorem ctx_no0 : CtxNo 0 := by
  intro most L j k B a0 r w hLk hL _ h1000 hm hB hv hB1
  have hLm : most < L := by omega
  have hc := one_cell hB
  have hlt := lt_of_block hB
  have h1lt := lt_of_cell hv
  clear hB hLk hL
  have z1 : (((Br (j + 1) (j + 1 + k)).size : Int) == 0) = false := by rw [Br_size, beq_eq_false_iff_ne]; omega
  unfold errV at hv ⊢
  go_enter Tryz.func64, Tryz.ntmps64
  go_wp2_with (first | (go_at_call 79; refine (check_no _ _ _ (.iface 171 (.pointer (some a0))) _ hm hLm (by simp [go_sem, hv, h1lt])).mono ?_; rintro e w' ⟨rfl, rfl⟩) | (go_at_call 62; refine (nobuf _ (Br (j + 1) (j + 1 + k)) _ (by simp [go_sem, hc, hlt]) z1).mono ?_; rintro e w' ⟨rfl, rfl⟩))
  go_ret2
  exact ⟨rfl, (Kept.refl _ _).alloc _⟩
set_option maxRecDepth 100000 in
set_option maxHeartbeats 1000000 in
theorem arr_no (d : Nat) (hctx : CtxNo d) (most L : Int) (j k B : Nat) (a0 : Addr) (r : Bool) (w : World) (hLk : L = (k : Int)) (hL : (k : Int) + (d + 1) = most + 1) (hd : d + 1 ≤ j) (h1000 : most ≤ 1000) (hm : 0 < most)
    (hB : w.heap[B]? = some (.cells #[.string (Br (j + 1) (j + 1 + k))] 9 (0, 0))) (hv : w.cell? ⟨1, 0, none⟩ = some (errV a0)) :
    Calls Tryz.prog 105 #[.agg #[], .pointer (some ⟨B, 0, none⟩), .int .i64 L, .int .i64 most, .bool r] w fun e w' =>
      e = .returned (.tuple #[.pointer none, errV a0]) ∧ Kept [] w w' := by
  obtain ⟨j, rfl⟩ : ∃ m, j = m + 1 := ⟨j - 1, by omega⟩
  have hc := one_cell hB
  have hlt := lt_of_block hB
  have h1lt := lt_of_cell hv
  have hLm : L ≤ most := by omega
  have hLlo : 0 ≤ L := by omega
  have hLhi : L ≤ 1000 := by omega
  have HLk := Lib.hid hLk; have HL := Lib.hid hL; have Hd := Lib.hid hd; clear hB hLk hL hd
  have e1 : j + 1 + 1 + k = j + 1 + (k + 1) := by omega
  rw [e1] at hc
  clear e1
  have z1 : (((Br (j + 1 + 1) (j + 1 + (k + 1))).size : Int) == 0) = false := by rw [Br_size, beq_eq_false_iff_ne]; omega
  have z2 : (((Br (j + 1 + 1) (j + 1 + (k + 1))).size : Int) == 1) = false := by rw [Br_size, beq_eq_false_iff_ne]; omega
  have z3 : (((Br (j + 1) (j + 1 + (k + 1))).size : Int) == 0) = false := by rw [Br_size, beq_eq_false_iff_ne]; omega
  have Hctx := Lib.hid hctx; clear hctx
  go_enter Tryz.func105, Tryz.ntmps105
  go_wp2_with (first | (go_at_call 79; refine (check_ok _ _ _ _ hm hLm).mono ?_; rintro e w' ⟨rfl, rfl⟩) | (go_at_call 130; refine (hasp_open _ _ _).mono ?_; rintro e w' ⟨rfl, rfl⟩) | (go_at_call 110; refine (fwd_open _ _ _ (by omega)).mono ?_; rintro e w' ⟨rfl, rfl⟩) | (go_at_call 80; refine (trim_br _ _ _ (by omega)).mono ?_; rintro e w' ⟨rfl, rfl⟩))
  refine wp_loop_rounds 1 ?_
  rw [rounds_succ]
  go_wp2_with (first | (go_at_call 130; refine (hasp_no _ _ _).mono ?_; rintro e w' ⟨rfl, rfl⟩))
  refine (Hctx.out most _ j (k + 1) (w.heap.size + 1) a0 r _ (by have := HLk.out; omega) (by have := HL.out; omega) (by have := Hd.out; omega) h1000 hm ?_ ?_ (by omega)).mono ?_
  case _ => rw [heap_lt, heap_lt, heap_lt, heap_at] <;> (first | rfl | omega | (simp only [World.size_alloc, World.size_setCell, World.size_drew]; omega) | (simp only [World.size_alloc, World.size_setCell, World.size_drew]) | (simp; omega))
  case _ => exact (((((((Kept.refl [] w).alloc _).alloc _).alloc _).alloc _).alloc _).cell h1lt (by simp)).trans hv
  rintro e w1 ⟨rfl, hk1⟩
  have K1 : Kept [] w w1 := Kept.trans (Z := []) ((((((Kept.refl [] w).alloc _).alloc _).alloc _).alloc _).alloc _) hk1 (by simp) (by simp)
  have HK := Lib.hid K1; clear K1 hk1 hv hc z1 z2 z3
  unfold errV
  go_wp2_with fail
  go_ret2
  exact ⟨rfl, HK.out⟩
set_option maxRecDepth 100000 in
set_option maxHeartbeats 1000000 in
theorem val_no (d : Nat) (hctx : CtxNo d) (most L : Int) (j k B : Nat) (a0 : Addr) (r : Bool) (w : World) (hLk : L = (k : Int)) (hL : (k : Int) + (d + 1) = most + 1) (hd : d + 1 ≤ j) (h1000 : most ≤ 1000) (hm : 0 < most)
    (hB : w.heap[B]? = some (.cells #[.string (Br (j + 1) (j + 1 + k))] 9 (0, 0))) (hv : w.cell? ⟨1, 0, none⟩ = some (errV a0)) :
    Calls Tryz.prog 81 #[.agg #[], .pointer (some ⟨B, 0, none⟩), .int .i64 L, .int .i64 most, .bool r] w fun e w' =>
      e = .returned (.tuple #[.nilIface, errV a0]) ∧ Kept [] w w' := by
  have hc := one_cell hB
  have hlt := lt_of_block hB
  have h1lt := lt_of_cell hv
  have H := Lib.hid hB; have HLk := Lib.hid hLk; have HL := Lib.hid hL; have Hd := Lib.hid hd; clear hB hLk hL hd
  have h0 : 0 < (Br (j + 1) (j + 1 + k)).size := by rw [Br_size]; omega
  have hf := congrArg (fun x : UInt8 => (x.toNat : Int)) (Br_first j (j + 1 + k) h0)
  simp only [UInt8.reduceToNat] at hf
  have Hctx := Lib.hid hctx; clear hctx
  go_enter Tryz.func81, Tryz.ntmps81
  go_wp2_with fail
  refine (arr_no d Hctx.out most _ j k B a0 r _ HLk.out HL.out Hd.out h1000 hm ?_ ?_).mono ?_
  case _ => rw [heap_lt hlt]; exact H.out
  case _ => exact (((Kept.refl [] w).alloc _).cell h1lt (by simp)).trans hv
  rintro e w1 ⟨rfl, hk1⟩
  have K1 : Kept [] w w1 := Kept.trans (Z := []) ((Kept.refl [] w).alloc _) hk1 (by simp) (by simp)
  have HK := Lib.hid K1; clear K1 hk1 hv hc hf
  unfold errV
  go_wp2_with fail
  go_ret2
  exact ⟨rfl, HK.out⟩
set_option maxRecDepth 100000 in
set_option maxHeartbeats 1000000 in
theorem ctx_no_succ (d : Nat) (hctx : CtxNo d) : CtxNo (d + 1) := by
  intro most L j k B a0 r w hLk hL hd h1000 hm hB hv hB1
  have hLm : L ≤ most := by omega
  have hc := one_cell hB
  have hlt := lt_of_block hB
  have h1lt := lt_of_cell hv
  have H := Lib.hid hB; have HLk := Lib.hid hLk; have HL := Lib.hid hL; have Hd := Lib.hid hd; clear hB hLk hL hd
  have z1 : (((Br (j + 1) (j + 1 + k)).size : Int) == 0) = false := by rw [Br_size, beq_eq_false_iff_ne]; omega
  have Hctx := Lib.hid hctx; clear hctx
  go_enter Tryz.func64, Tryz.ntmps64
  go_wp2_with (first | (go_at_call 79; refine (check_ok _ _ _ _ hm hLm).mono ?_; rintro e w' ⟨rfl, rfl⟩) | (go_at_call 62; refine (nobuf _ (Br (j + 1) (j + 1 + k)) _ (by simp [go_sem, hc, hlt]) z1).mono ?_; rintro e w' ⟨rfl, rfl⟩) | (go_at_call 80; refine (trim_br _ _ _ (by omega)).mono ?_; rintro e w' ⟨rfl, rfl⟩))
  refine (val_no d Hctx.out most _ j k (w.heap.size + 1) a0 r _ HLk.out (by have := HL.out; omega) Hd.out h1000 hm ?_ ?_).mono ?_
  case _ => rw [heap_lt, heap_at] <;> (first | rfl | omega | (simp only [World.size_alloc, World.size_setCell, World.size_drew]; omega) | (simp only [World.size_alloc, World.size_setCell, World.size_drew]) | (simp; omega))
  case _ => exact (((((Kept.refl [] w).alloc _).alloc _).alloc _).cell h1lt (by simp)).trans hv
  rintro e w1 ⟨rfl, hk1⟩
  have K1 : Kept [] w w1 := Kept.trans (Z := []) ((((Kept.refl [] w).alloc _).alloc _).alloc _) hk1 (by simp) (by simp)
  have HK := Lib.hid K1; clear K1 hk1 hv hc z1
  unfold errV
  go_wp2_with fail
  go_ret2
  exact ⟨rfl, HK.out⟩
theorem ctx_no : ∀ d, CtxNo d
  | 0 => ctx_no0
  | d + 1 => ctx_no_succ d (ctx_no d)
#print axioms ctx_no
end Go.Proofs.YtfkecmlmnhbmoaaGreatDoor
