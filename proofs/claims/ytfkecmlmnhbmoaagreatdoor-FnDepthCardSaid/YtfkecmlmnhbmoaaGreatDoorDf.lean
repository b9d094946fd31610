import Derived.Test.YtfkecmlmnhbmoaaGreatDoorDe
namespace Go.Proofs.YtfkecmlmnhbmoaaGreatDoor
open Go.RowKit
set_option maxRecDepth 100000 in
set_option maxHeartbeats 1000000 in
theorem val_ok (j : Nat) (harr : ArrOk j) (most L : Int) (k B : Nat) (r : Bool) (w : World) (hLk : L = (k : Int)) (hL : (k : Int) + j ≤ most) (h1000 : most ≤ 1000) (hm : 0 < most) (hB : w.heap[B]? = some (.cells #[.string (Br (j + 1) (j + 1 + k))] 9 (0, 0))) :
    Calls Tryz.prog 81 #[.agg #[], .pointer (some ⟨B, 0, none⟩), .int .i64 L, .int .i64 most, .bool r] w fun e w' =>
      ∃ v, e = .returned (.tuple #[v, .nilIface]) ∧ Nest w' w.heap.size j v ∧ w'.heap[B]? = some (.cells #[.string (Br 0 k)] 9 (0, 0)) ∧ Kept [B] w w' := by
  have hc := one_cell hB
  have hlt := lt_of_block hB
  have H := Lib.hid hB; have HLk := Lib.hid hLk; have HL := Lib.hid hL; clear hB hLk hL
  have h0 : 0 < (Br (j + 1) (j + 1 + k)).size := by rw [Br_size]; omega
  have hf := congrArg (fun x : UInt8 => (x.toNat : Int)) (Br_first j (j + 1 + k) h0)
  simp only [UInt8.reduceToNat] at hf
  have Harr := Lib.hid harr; clear harr
  go_enter Tryz.func81, Tryz.ntmps81
  go_wp2_with fail
  refine (Harr.out most _ k B r _ HLk.out HL.out h1000 hm ?_).mono ?_
  case _ => rw [heap_lt hlt]; exact H.out
  rintro e w1 ⟨q, s, rfl, hq, hcq, hn, hb1, hk1⟩
  obtain ⟨va, vn, vc, hs⟩ := hn.iface
  obtain rfl : s = .slice va vn vc := by injection hs
  simp only [World.size_alloc] at hn hq
  have Hn := Lib.hid hn; have Hb1 := Lib.hid hb1; have Hk1 := Lib.hid hk1; clear hn hb1 hk1 hs hc hf
  go_wp2_with fail
  go_ret2
  exact ⟨_, rfl, Nest.mono (by omega) Hn.out, Hb1.out, Kept.trans (Z := [B]) ((Kept.refl [] w).alloc _) Hk1.out (by simp) (fun y hy _ => hy)⟩
set_option maxRecDepth 100000 in
set_option maxHeartbeats 1000000 in
theorem ctx_of_val (j : Nat) (harr : ArrOk j) : CtxOk j := by
  intro most L k B r w hLk hL h1000 hm hB
  have hLm : L ≤ most := by omega
  have hc := one_cell hB
  have hlt := lt_of_block hB
  have H := Lib.hid hB; have HLk := Lib.hid hLk; have HL := Lib.hid hL; clear hB hLk hL
  have z1 : (((Br (j + 1) (j + 1 + k)).size : Int) == 0) = false := by rw [Br_size, beq_eq_false_iff_ne]; omega
  have Harr := Lib.hid harr; clear harr
  have hca := hc
  go_enter Tryz.func64, Tryz.ntmps64
  go_wp2_with (first | (go_at_call 79; refine (check_ok _ _ _ _ hm hLm).mono ?_; rintro e w' ⟨rfl, rfl⟩) | (go_at_call 62; refine (nobuf _ (Br (j + 1) (j + 1 + k)) _ (by simp [go_sem, hc, hlt]) z1).mono ?_; rintro e w' ⟨rfl, rfl⟩) | (go_at_call 80; refine (trim_br _ _ _ (by omega)).mono ?_; rintro e w' ⟨rfl, rfl⟩))
  refine (val_ok j Harr.out most _ k (w.heap.size + 1) r _ HLk.out HL.out h1000 hm ?_).mono ?_
  case _ => rw [heap_lt, heap_at] <;> (first | rfl | omega | (simp only [World.size_alloc, World.size_setCell, World.size_drew]; omega) | (simp only [World.size_alloc, World.size_setCell, World.size_drew]) | (simp; omega))
  rintro e w1 ⟨v, rfl, hn, hb1, hk1⟩
  have q1 := hk1.size
  simp only [World.size_alloc] at hn q1
  have K1 : Kept [] w w1 := Kept.trans (Z := []) ((((Kept.refl [] w).alloc _).alloc _).alloc _) hk1 (by simp) (fun y hy hl => by simp at hy; omega)
  have cB := (K1.cell (o := 0) hlt (by simp)).trans (one_cell H.out)
  have fB := (K1.frozen (o := 0) hlt (by simp)).trans (one_free H.out 0)
  have cl := one_cell hb1
  obtain ⟨va, vn, vc, rfl⟩ := hn.iface
  have Hn := Lib.hid hn; have Hk1 := Lib.hid K1; clear hn hb1 hk1 K1 hc hca z1
  go_wp2_with fail
  go_ret2
  refine ⟨_, rfl, ?_, one_set ((Hk1.out.block _ hlt (by simp)).trans H.out) _, (Hk1.out.mono (Y := [B]) (by simp)).setCell (.inr (by simp)) _⟩
  refine Nest.mono (by omega) (Hn.out.kept (X := [B]) ((Kept.refl _ w1).setCell (.inr (by simp)) _) (by simp; omega))
theorem arr_all : ∀ j, ArrOk j
  | 0 => arr_ok0
  | j + 1 => arr_succ j (ctx_of_val j (arr_all j))
theorem ctx_ok (j : Nat) : CtxOk j := ctx_of_val j (arr_all j)
#print axioms ctx_ok
end Go.Proofs.YtfkecmlmnhbmoaaGreatDoor
