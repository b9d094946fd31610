import Derived.Test.YtfkecmlmnhbmoaaGreatDoorDh
namespace Go.Proofs.YtfkecmlmnhbmoaaGreatDoor
open Go.RowKit
set_option maxHeartbeats 1000000 in
theorem limits (w : World) : Calls Tryz.prog 78 #[] w fun e w' =>
    e = .returned (.agg #[.int .i64 536870912, .int .i64 536870912, .int .i64 104857600, .int .i64 536870912, .int .i64 10000000, .int .i64 1000000, .int .i64 16777216, .int .i64 10000000, .int .i64 100]) ∧ Kept [] w w' := by
  go_enter Tryz.func78, Tryz.ntmps78
  go_wp2

  refine bodyPost_ret (v := .agg #[.int .i64 536870912, .int .i64 536870912, .int .i64 104857600, .int .i64 536870912, .int .i64 10000000, .int .i64 1000000, .int .i64 16777216, .int .i64 10000000, .int .i64 100]) (by simp [results, Tryz.results78, go_sem]) rfl ⟨rfl, ?_⟩
  exact (Kept.refl [] w).alloc _
theorem Tryz.field143 (a b c d e f g h i : Value) (w : World) : (Instr.field 143 (.agg #[a, b, c, d, e, f, g, h, i]) 8).run Tryz.prog w = .ok i w := by kernel_rfl
set_option maxRecDepth 100000 in
set_option maxHeartbeats 1000000 in
theorem depth_limit (b : Nat) (most : Int) (w : World) (hc : w.cell? ⟨b, 0, none⟩ = some (.int .i64 most)) : Calls Tryz.prog 63 #[.slice (some ⟨b, 0, none⟩) 1 1] w fun e w' =>
    e = .returned (.int .i64 most) ∧ Kept [] w w' := by
  have hlt := lt_of_cell hc
  go_enter Tryz.func63, Tryz.ntmps63
  go_wp2_with fail
  refine (limits _).mono ?_
  rintro e w1 ⟨rfl, hk⟩
  have hc1 := (hk.cell (o := 0) hlt (by simp)).trans hc
  have HK := Lib.hid hk; clear hk hc
  have hfl := Tryz.field143
  go_wp2_with fail
  go_ret
  exact ⟨rfl, HK.out⟩
set_option maxRecDepth 100000 in
set_option maxHeartbeats 1000000 in
theorem pctx_ok (j : Nat) (most : Int) (B sb : Nat) (w : World) (hL : (j : Int) ≤ most) (h1000 : most ≤ 1000) (hm : 0 < most) (hB : w.heap[B]? = some (.cells #[.string (Br (j + 1) (j + 1))] 9 (0, 0)))
    (hs : w.cell? ⟨sb, 0, none⟩ = some (.int .i64 most)) :
    Calls Tryz.prog 40 #[.agg #[], .pointer (some ⟨B, 0, none⟩), .int .i64 0, .slice (some ⟨sb, 0, none⟩) 1 1] w fun e w' =>
      ∃ v, e = .returned (.tuple #[v, .nilIface]) ∧ Nest w' w.heap.size j v ∧ w'.heap[B]? = some (.cells #[.string (Br 0 0)] 9 (0, 0)) ∧ Kept [B] w w' := by
  have hc := one_cell hB
  have hlt := lt_of_block hB
  have hst := lt_of_cell hs
  have H := Lib.hid hB; have HL := Lib.hid hL; clear hB hL
  have z1 : (((Br (j + 1) (j + 1)).size : Int) == 0) = false := by rw [Br_size, beq_eq_false_iff_ne]; omega
  go_enter Tryz.func40, Tryz.ntmps40
  go_wp2_with (first | (go_at_call 62; refine (nobuf _ (Br (j + 1) (j + 1)) _ (by simp [go_sem, hc, hlt]) z1).mono ?_; rintro e w' ⟨rfl, rfl⟩))
  refine (depth_limit sb most _ ?_).mono ?_
  case _ => exact (((Kept.refl [] w).alloc _).cell hst (by simp)).trans hs
  rintro e w1 ⟨rfl, hk⟩
  have q1 := hk.size
  have K1 : Kept [] w w1 := Kept.trans (Z := []) ((Kept.refl [] w).alloc _) hk (by simp) (by simp)
  have hc1 := (K1.cell (o := 0) hlt (by simp)).trans hc
  have hb1 := (K1.block _ hlt (by simp)).trans H.out
  have HK1 := Lib.hid K1; have Hb1 := Lib.hid hb1; clear K1 hb1 hk hc hs
  go_wp2_with fail
  refine (ctx_ok j most 0 0 B false w1 rfl (by have := HL.out; omega) h1000 hm (by exact Hb1.out)).mono ?_
  rintro e w2 ⟨v, rfl, hn, hb2, hk2⟩
  have K2 : Kept [B] w w2 := Kept.trans HK1.out hk2 (by simp) (fun y hy _ => hy)
  have HK2 := Lib.hid K2; have Hn := Lib.hid hn; have Hb2 := Lib.hid hb2; clear K2 hn hb2 hk2 hc1 z1
  obtain ⟨va, vn, vc, rfl⟩ := Hn.out.iface
  go_wp2_with fail
  go_ret2
  exact ⟨_, rfl, Nest.mono HK1.out.size Hn.out, Hb2.out, HK2.out⟩
set_option maxRecDepth 100000 in
set_option maxHeartbeats 1000000 in
theorem pctx_no (j : Nat) (most : Int) (B sb : Nat) (a0 : Addr) (w : World) (hL : most < j) (h1000 : most ≤ 1000) (hm : 0 < most) (hB : w.heap[B]? = some (.cells #[.string (Br (j + 1) (j + 1))] 9 (0, 0)))
    (hs : w.cell? ⟨sb, 0, none⟩ = some (.int .i64 most)) (hv : w.cell? ⟨1, 0, none⟩ = some (errV a0)) (hB1 : B ≠ 1) :
    Calls Tryz.prog 40 #[.agg #[], .pointer (some ⟨B, 0, none⟩), .int .i64 0, .slice (some ⟨sb, 0, none⟩) 1 1] w fun e w' =>
      e = .returned (.tuple #[.nilIface, errV a0]) ∧ Kept [B] w w' := by
  have hc := one_cell hB
  have hlt := lt_of_block hB
  have hst := lt_of_cell hs
  have h1t := lt_of_cell hv
  have H := Lib.hid hB; have HL := Lib.hid hL; clear hB hL
  have z1 : (((Br (j + 1) (j + 1)).size : Int) == 0) = false := by rw [Br_size, beq_eq_false_iff_ne]; omega
  go_enter Tryz.func40, Tryz.ntmps40
  go_wp2_with (first | (go_at_call 62; refine (nobuf _ (Br (j + 1) (j + 1)) _ (by simp [go_sem, hc, hlt]) z1).mono ?_; rintro e w' ⟨rfl, rfl⟩))
  refine (depth_limit sb most _ ?_).mono ?_
  case _ => exact (((Kept.refl [] w).alloc _).cell hst (by simp)).trans hs
  rintro e w1 ⟨rfl, hk⟩
  have q1 := hk.size
  have K1 : Kept [] w w1 := Kept.trans (Z := []) ((Kept.refl [] w).alloc _) hk (by simp) (by simp)
  have hc1 := (K1.cell (o := 0) hlt (by simp)).trans hc
  have hb1 := (K1.block _ hlt (by simp)).trans H.out
  have hv1 := (K1.cell (o := 0) h1t (by simp)).trans hv
  have HK1 := Lib.hid K1; have Hb1 := Lib.hid hb1; have Hv1 := Lib.hid hv1; clear K1 hb1 hk hc hs hv hv1
  go_wp2_with fail
  refine (ctx_no (most + 1).toNat most 0 j 0 B a0 false w1 rfl (by omega) (by have := HL.out; omega) h1000 hm (by exact Hb1.out) Hv1.out hB1).mono ?_
  rintro e w2 ⟨rfl, hk2⟩
  have K2 : Kept [] w w2 := Kept.trans HK1.out hk2 (by simp) (fun y hy _ => hy)
  have hv2 := (hk2.cell (o := 0) (show 1 < w1.heap.size from Nat.lt_of_lt_of_le h1t HK1.out.size) (by simp)).trans Hv1.out
  have HK2 := Lib.hid K2; clear K2 hk2 hc1 z1
  unfold errV at hv2 ⊢
  go_wp2_with (go_at_call 65; refine (is_same a0 _).mono ?_; rintro e w' ⟨rfl, rfl⟩)
  go_ret2
  exact ⟨rfl, HK2.out.mono (by simp)⟩
end Go.Proofs.YtfkecmlmnhbmoaaGreatDoor
