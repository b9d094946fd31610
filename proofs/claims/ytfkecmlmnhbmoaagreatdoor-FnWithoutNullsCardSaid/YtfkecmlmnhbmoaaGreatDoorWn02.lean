import Derived.LaidEql
import Derived.Stop.Asserts
import Derived.RowKitTokens
import Derived.Test.YtfkecmlmnhbmoaaGreatDoorWn01
namespace Go.Proofs.YtfkecmlmnhbmoaaGreatDoor
open Go.RowKit Go.Extern.Stop Go.Stop Go.Extern
theorem Tryz.isTypeOf (v : Value) (w : World) : (Extern.ReflectliteType.typeOf #[.iface 171 v]).run Tryz.prog w = .ok (.iface 188 (.agg #[.pointer (some ⟨28, 171, none⟩)])) w := by kernel_rfl
theorem Tryz.isComparable (w : World) : ((Extern.ReflectliteType.method fun t => do Rtype.noPackHeld "Comparable" t; (fun a => Value.bool a.comparable) <$> typeInfo t) #[.agg #[.pointer (some ⟨28, 171, none⟩)]]).run Tryz.prog w = .ok (.bool true) w := by kernel_rfl
theorem Tryz.isMethodComparable (v : Value) (w : World) : (Go.method 483 188 v "Comparable").run Tryz.prog w = .ok (293, v) w := by kernel_rfl
theorem Tryz.isComp : (Tryz.prog.info? 171).map (·.comparable) = some true := by kernel_rfl
theorem Tryz.isSize : (Tryz.prog.info? 173).map (·.size) = some 1 := by kernel_rfl
set_option maxRecDepth 100000 in
set_option maxHeartbeats 1000000 in
/-- errors.Is(x, x), x a pointer to an errors.errorString. -/
theorem is_same (a : Addr) (w : World) :
    Calls Tryz.prog 65 #[errV a, errV a] w fun e w' => e = .returned (.bool true) ∧ w = w' := by
  obtain ⟨i, hi, hcmp⟩ := Option.map_eq_some_iff.1 Tryz.isComp
  obtain ⟨j, hj, hjs⟩ := Option.map_eq_some_iff.1 Tryz.isSize
  have h8 := @run_callFunc_extern Tryz.prog 82 _ Extern.ReflectliteType.typeOf Tryz.func82 (by kernel_rfl) (by kernel_rfl) (by kernel_rfl) (by kernel_rfl)
  have h32 := @run_callFunc_extern Tryz.prog 293 _ (Extern.ReflectliteType.method fun t => do Rtype.noPackHeld "Comparable" t; pure (.bool (← typeInfo t).comparable)) Tryz.func293 (by kernel_rfl) (by kernel_rfl) (by kernel_rfl) (by kernel_rfl)
  have tT := Tryz.isTypeOf
  have cT := Tryz.isComparable
  have mR := Tryz.isMethodComparable
  have heq := run_eql_iface_ptr_same (P := Tryz.prog) w a Tryz.underlying84 Tryz.underlying171 hi hcmp hj
  unfold errV
  go_enter Tryz.func65, Tryz.ntmps65
  go_wp2
  refine wp_loop_rounds 1 ?_
  rw [rounds_succ]
  go_wp2
  go_ret
  exact ⟨rfl, rfl⟩
end Go.Proofs.YtfkecmlmnhbmoaaGreatDoor
namespace Go.Proofs.YtfkecmlmnhbmoaaGreatDoor
open Go.RowKit
set_option maxHeartbeats 1000000 in
theorem limits (w : World) : Calls Tryz.prog 78 #[] w fun e w' =>
    e = .returned (.agg #[.int .i64 536870912, .int .i64 536870912, .int .i64 104857600, .int .i64 536870912, .int .i64 10000000, .int .i64 1000000, .int .i64 16777216, .int .i64 10000000, .int .i64 100]) ∧ Kept [] w w' := by
  go_enter Tryz.func78, Tryz.ntmps78
  go_wp2

  refine bodyPost_ret (v := .agg #[.int .i64 536870912, .int .i64 536870912, .int .i64 104857600, .int .i64 536870912, .int .i64 10000000, .int .i64 1000000, .int .i64 16777216, .int .i64 10000000, .int .i64 100]) (by simp [results, Tryz.results78, go_sem]) rfl ⟨rfl, ?_⟩
  exact (Kept.refl [] w).alloc _
theorem Tryz.field143 (a b c d e f g h i : Value) (w : World) : (Instr.field 143 (.agg #[a, b, c, d, e, f, g, h, i]) 8).run Tryz.prog w = .ok i w := by kernel_rfl
set_option maxRecDepth 100000 in
set_option maxHeartbeats 1000000 in
theorem depth_limit (b : Nat) (most : Int) (w : World) (hc : w.cell? ⟨b, 0, none⟩ = some (.int .i64 most)) : Calls Tryz.prog 63 #[.slice (some ⟨b, 0, none⟩) 1 1] w fun e w' =>
    e = .returned (.int .i64 most) ∧ Kept [] w w' := by
  have hlt := lt_of_cell hc
  go_enter Tryz.func63, Tryz.ntmps63
  go_wp2_with fail
  refine (limits _).mono ?_
  rintro e w1 ⟨rfl, hk⟩
  have hc1 := (hk.cell (o := 0) hlt (by simp)).trans hc
  have HK := Lib.hid hk; clear hk hc
  have hfl := Tryz.field143
  go_wp2_with fail
  go_ret
  exact ⟨rfl, HK.out⟩
set_option maxRecDepth 100000 in
set_option maxHeartbeats 1000000 in
theorem pctx_ok (j : Nat) (most : Int) (B sb : Nat) (w : World) (hL : (j : Int) ≤ most) (h1000 : most ≤ 1000) (hm : 0 < most) (hB : w.heap[B]? = some (.cells #[.string (Br (j + 1) (j + 1))] 9 (0, 0)))
    (hs : w.cell? ⟨sb, 0, none⟩ = some (.int .i64 most)) :
    Calls Tryz.prog 40 #[.agg #[], .pointer (some ⟨B, 0, none⟩), .int .i64 0, .slice (some ⟨sb, 0, none⟩) 1 1] w fun e w' =>
      ∃ v, e = .returned (.tuple #[v, .nilIface]) ∧ Nest w' w.heap.size j v ∧ w'.heap[B]? = some (.cells #[.string (Br 0 0)] 9 (0, 0)) ∧ Kept [B] w w' := by
  have hc := one_cell hB
  have hlt := lt_of_block hB
  have hst := lt_of_cell hs
  have H := Lib.hid hB; have HL := Lib.hid hL; clear hB hL
  have z1 : (((Br (j + 1) (j + 1)).size : Int) == 0) = false := by rw [Br_size, beq_eq_false_iff_ne]; omega
  go_enter Tryz.func40, Tryz.ntmps40
  go_wp2_with (first | (go_at_call 62; refine (nobuf _ (Br (j + 1) (j + 1)) _ (by simp [go_sem, hc, hlt]) z1).mono ?_; rintro e w' ⟨rfl, rfl⟩))
  refine (depth_limit sb most _ ?_).mono ?_
  case _ => exact (((Kept.refl [] w).alloc _).cell hst (by simp)).trans hs
  rintro e w1 ⟨rfl, hk⟩
  have q1 := hk.size
  have K1 : Kept [] w w1 := Kept.trans (Z := []) ((Kept.refl [] w).alloc _) hk (by simp) (by simp)
  have hc1 := (K1.cell (o := 0) hlt (by simp)).trans hc
  have hb1 := (K1.block _ hlt (by simp)).trans H.out
  have HK1 := Lib.hid K1; have Hb1 := Lib.hid hb1; clear K1 hb1 hk hc hs
  go_wp2_with fail
  refine (ctx_ok j most 0 0 B false w1 rfl (by have := HL.out; omega) h1000 hm (by exact Hb1.out)).mono ?_
  rintro e w2 ⟨v, rfl, hn, hb2, hk2⟩
  have K2 : Kept [B] w w2 := Kept.trans HK1.out hk2 (by simp) (fun y hy _ => hy)
  have HK2 := Lib.hid K2; have Hn := Lib.hid hn; have Hb2 := Lib.hid hb2; clear K2 hn hb2 hk2 hc1 z1
  obtain ⟨va, vn, vc, rfl⟩ := Hn.out.iface
  go_wp2_with fail
  go_ret2
  exact ⟨_, rfl, Nest.mono HK1.out.size Hn.out, Hb2.out, HK2.out⟩
set_option maxRecDepth 100000 in
set_option maxHeartbeats 1000000 in
theorem pctx_no (j : Nat) (most : Int) (B sb : Nat) (a0 : Addr) (w : World) (hL : most < j) (h1000 : most ≤ 1000) (hm : 0 < most) (hB : w.heap[B]? = some (.cells #[.string (Br (j + 1) (j + 1))] 9 (0, 0)))
    (hs : w.cell? ⟨sb, 0, none⟩ = some (.int .i64 most)) (hv : w.cell? ⟨1, 0, none⟩ = some (errV a0)) (hB1 : B ≠ 1) :
    Calls Tryz.prog 40 #[.agg #[], .pointer (some ⟨B, 0, none⟩), .int .i64 0, .slice (some ⟨sb, 0, none⟩) 1 1] w fun e w' =>
      e = .returned (.tuple #[.nilIface, errV a0]) ∧ Kept [B] w w' := by
  have hc := one_cell hB
  have hlt := lt_of_block hB
  have hst := lt_of_cell hs
  have h1t := lt_of_cell hv
  have H := Lib.hid hB; have HL := Lib.hid hL; clear hB hL
  have z1 : (((Br (j + 1) (j + 1)).size : Int) == 0) = false := by rw [Br_size, beq_eq_false_iff_ne]; omega
  go_enter Tryz.func40, Tryz.ntmps40
  go_wp2_with (first | (go_at_call 62; refine (nobuf _ (Br (j + 1) (j + 1)) _ (by simp [go_sem, hc, hlt]) z1).mono ?_; rintro e w' ⟨rfl, rfl⟩))
  refine (depth_limit sb most _ ?_).mono ?_
  case _ => exact (((Kept.refl [] w).alloc _).cell hst (by simp)).trans hs
  rintro e w1 ⟨rfl, hk⟩
  have q1 := hk.size
  have K1 : Kept [] w w1 := Kept.trans (Z := []) ((Kept.refl [] w).alloc _) hk (by simp) (by simp)
  have hc1 := (K1.cell (o := 0) hlt (by simp)).trans hc
  have hb1 := (K1.block _ hlt (by simp)).trans H.out
  have hv1 := (K1.cell (o := 0) h1t (by simp)).trans hv
  have HK1 := Lib.hid K1; have Hb1 := Lib.hid hb1; have Hv1 := Lib.hid hv1; clear K1 hb1 hk hc hs hv hv1
  go_wp2_with fail
  refine (ctx_no (most + 1).toNat most 0 j 0 B a0 false w1 rfl (by omega) (by have := HL.out; omega) h1000 hm (by exact Hb1.out) Hv1.out hB1).mono ?_
  rintro e w2 ⟨rfl, hk2⟩
  have K2 : Kept [] w w2 := Kept.trans HK1.out hk2 (by simp) (fun y hy _ => hy)
  have hv2 := (hk2.cell (o := 0) (show 1 < w1.heap.size from Nat.lt_of_lt_of_le h1t HK1.out.size) (by simp)).trans Hv1.out
  have HK2 := Lib.hid K2; clear K2 hk2 hc1 z1
  unfold errV at hv2 ⊢
  go_wp2_with (go_at_call 65; refine (is_same a0 _).mono ?_; rintro e w' ⟨rfl, rfl⟩)
  go_ret2
  exact ⟨rfl, HK2.out.mono (by simp)⟩
end Go.Proofs.YtfkecmlmnhbmoaaGreatDoor
namespace Go.Proofs.YtfkecmlmnhbmoaaGreatDoor
open Go.RowKit
set_option maxRecDepth 100000 in
set_option maxHeartbeats 1000000 in
theorem clo39_ok (j : Nat) (most : Int) (B lb mb : Nat) (w : World) (hL : (j : Int) ≤ most) (h1000 : most ≤ 1000) (hm : 0 < most) (hB : w.heap[B]? = some (.cells #[.string (Br (j + 1) (j + 1))] 9 (0, 0)))
    (hl : w.cell? ⟨lb, 0, none⟩ = some (.int .i64 0)) (hmb : w.cell? ⟨mb, 0, none⟩ = some (.int .i64 most)) :
    Calls Tryz.prog 39 #[.pointer (some ⟨B, 0, none⟩), .pointer (some ⟨lb, 0, none⟩), .pointer (some ⟨mb, 0, none⟩)] w fun e w' =>
      ∃ v, e = .returned (.tuple #[v, .nilIface]) ∧ Nest w' w.heap.size j v ∧ w'.heap[B]? = some (.cells #[.string (Br 0 0)] 9 (0, 0)) ∧ Kept [B] w w' := by
  have hlt := lt_of_block hB
  have H := Lib.hid hB; have HL := Lib.hid hL; clear hB hL
  go_enter Tryz.func39, Tryz.ntmps39
  go_wp2_with fail
  refine (pctx_ok j most B w.heap.size _ HL.out h1000 hm ?_ ?_).mono ?_
  case _ => rw [heap_lt hlt]; exact H.out
  case _ => rw [World.cell?_alloc_at _ _ _ _ rfl]; rfl
  rintro e w1 ⟨v, rfl, hn, hb2, hk⟩
  have Hb2 := Lib.hid hb2; clear hb2
  have K1 : Kept [B] w w1 := Kept.trans (Z := [B]) ((Kept.refl [] w).alloc _) hk (by simp) (fun y hy _ => hy)
  have HK1 := Lib.hid K1; have Hn := Lib.hid hn; clear K1 hn hk hl hmb
  obtain ⟨va, vn, vc, rfl⟩ := Hn.out.iface
  go_wp2_with fail
  go_ret2
  exact ⟨_, rfl, Nest.mono (by simp) Hn.out, Hb2.out, HK1.out⟩
set_option maxRecDepth 100000 in
set_option maxHeartbeats 1000000 in
theorem clo39_no (j : Nat) (most : Int) (B lb mb : Nat) (a0 : Addr) (w : World) (hL : most < j) (h1000 : most ≤ 1000) (hm : 0 < most) (hB : w.heap[B]? = some (.cells #[.string (Br (j + 1) (j + 1))] 9 (0, 0)))
    (hl : w.cell? ⟨lb, 0, none⟩ = some (.int .i64 0)) (hmb : w.cell? ⟨mb, 0, none⟩ = some (.int .i64 most)) (hv : w.cell? ⟨1, 0, none⟩ = some (errV a0)) (hB1 : B ≠ 1) :
    Calls Tryz.prog 39 #[.pointer (some ⟨B, 0, none⟩), .pointer (some ⟨lb, 0, none⟩), .pointer (some ⟨mb, 0, none⟩)] w fun e w' =>
      e = .returned (.tuple #[.nilIface, errV a0]) ∧ Kept [B] w w' := by
  have hlt := lt_of_block hB
  have h1t := lt_of_cell hv
  have H := Lib.hid hB; have HL := Lib.hid hL; have Hv := Lib.hid hv; clear hB hL hv
  go_enter Tryz.func39, Tryz.ntmps39
  go_wp2_with fail
  refine (pctx_no j most B w.heap.size a0 _ HL.out h1000 hm ?_ ?_ ?_ hB1).mono ?_
  case _ => rw [heap_lt hlt]; exact H.out
  case _ => rw [World.cell?_alloc_at _ _ _ _ rfl]; rfl
  case _ => exact (((Kept.refl [] w).alloc _).cell h1t (by simp)).trans Hv.out
  rintro e w1 ⟨rfl, hk⟩
  have K1 : Kept [B] w w1 := Kept.trans (Z := [B]) ((Kept.refl [] w).alloc _) hk (by simp) (fun y hy _ => hy)
  have HK1 := Lib.hid K1; clear K1 hk hl hmb
  unfold errV
  go_wp2_with fail
  go_ret2
  exact ⟨rfl, HK1.out⟩
set_option maxRecDepth 100000 in
set_option maxHeartbeats 1000000 in
theorem clo61_ok (j : Nat) (most : Int) (fb B ob eb lb mb : Nat) (w : World) (hL : (j : Int) ≤ most) (h1000 : most ≤ 1000) (hm : 0 < most) (hB : w.heap[B]? = some (.cells #[.string (Br (j + 1) (j + 1))] 9 (0, 0)))
    (hl : w.cell? ⟨lb, 0, none⟩ = some (.int .i64 0)) (hmb : w.cell? ⟨mb, 0, none⟩ = some (.int .i64 most))
    (hf : w.cell? ⟨fb, 0, none⟩ = some (.func (.func 39) #[] #[.pointer (some ⟨lb, 0, none⟩), .pointer (some ⟨mb, 0, none⟩)]))
    (ho : w.heap[ob]? = some (.cells #[.nilIface] 66 (0, 0))) (he : w.heap[eb]? = some (.cells #[.nilIface] 84 (0, 0))) :
    Calls Tryz.prog 61 #[.pointer (some ⟨fb, 0, none⟩), .pointer (some ⟨B, 0, none⟩), .pointer (some ⟨ob, 0, none⟩), .pointer (some ⟨eb, 0, none⟩)] w fun e w' =>
      ∃ v, e = .returned (.tuple #[]) ∧ Nest w' w.heap.size j v ∧ w'.heap[ob]? = some (.cells #[v] 66 (0, 0)) ∧ w'.heap[eb]? = some (.cells #[.nilIface] 84 (0, 0)) ∧ w'.heap[B]? = some (.cells #[.string (Br 0 0)] 9 (0, 0)) ∧ Kept [B, ob, eb] w w' := by
  have hlt := lt_of_block hB
  have hot := lt_of_block ho
  have het := lt_of_block he
  have n1 : ob ≠ B := by rintro rfl; rw [hB] at ho; simp at ho
  have n2 : eb ≠ B := by rintro rfl; rw [hB] at he; simp at he
  have n3 : ob ≠ eb := by rintro rfl; rw [ho] at he; simp at he
  have H := Lib.hid hB; have HL := Lib.hid hL; have Ho := Lib.hid ho; have He := Lib.hid he; clear hB hL ho he
  go_enter Tryz.func61, Tryz.ntmps61
  go_wp2_with fail
  refine (clo39_ok j most B lb mb _ HL.out h1000 hm H.out hl hmb).mono ?_
  rintro e w1 ⟨v, rfl, hn, hb2, hk⟩
  have Hb2 := Lib.hid hb2; clear hb2
  obtain ⟨va, vn, vc, rfl⟩ := hn.iface
  have bo := (hk.block _ hot (by simp [n1])).trans Ho.out
  have be := (hk.block _ het (by simp [n2])).trans He.out
  have co := one_cell bo
  have fo := one_free bo 0
  have ce := one_cell be
  have fe := one_free be 0
  have r1 := fun (X : World) (u : Value) => cell_set_other n3 0 0 X u
  have Hk := Lib.hid hk; have Hn := Lib.hid hn; have Bo := Lib.hid bo; have Be := Lib.hid be
  clear hk hn bo be hl hmb hf
  go_wp2_with fail
  go_end0
  have q1 := Hk.out.size
  refine ⟨.iface 70 (.slice va vn vc), rfl, ?_, ?_, ?_, ?_, ?_⟩
  · exact Hn.out.kept (X := [ob, eb]) (((Kept.refl _ w1).setCell (.inr (by simp)) _).setCell (.inr (by simp)) _) (by simp; omega)
  · rw [heap_set (by simp; omega)]; exact one_set Bo.out _
  · refine one_set (v := .nilIface) ?_ _
    rw [heap_set (by simp; omega)]; exact Be.out
  · rw [heap_set (by simp; omega), heap_set (by simp; omega)]; exact Hb2.out
  · exact ((Hk.out.mono (Y := [B, ob, eb]) (by simp)).setCell (.inr (by simp)) _).setCell (.inr (by simp)) _
set_option maxRecDepth 100000 in
set_option maxHeartbeats 1000000 in
theorem clo61_no (j : Nat) (most : Int) (fb B ob eb lb mb : Nat) (a0 : Addr) (w : World) (hL : most < j) (h1000 : most ≤ 1000) (hm : 0 < most) (hB : w.heap[B]? = some (.cells #[.string (Br (j + 1) (j + 1))] 9 (0, 0)))
    (hl : w.cell? ⟨lb, 0, none⟩ = some (.int .i64 0)) (hmb : w.cell? ⟨mb, 0, none⟩ = some (.int .i64 most))
    (hf : w.cell? ⟨fb, 0, none⟩ = some (.func (.func 39) #[] #[.pointer (some ⟨lb, 0, none⟩), .pointer (some ⟨mb, 0, none⟩)]))
    (ho : w.heap[ob]? = some (.cells #[.nilIface] 66 (0, 0))) (he : w.heap[eb]? = some (.cells #[.nilIface] 84 (0, 0))) (hv : w.cell? ⟨1, 0, none⟩ = some (errV a0)) (hB1 : B ≠ 1) :
    Calls Tryz.prog 61 #[.pointer (some ⟨fb, 0, none⟩), .pointer (some ⟨B, 0, none⟩), .pointer (some ⟨ob, 0, none⟩), .pointer (some ⟨eb, 0, none⟩)] w fun e w' =>
      e = .returned (.tuple #[]) ∧ w'.heap[eb]? = some (.cells #[errV a0] 84 (0, 0)) ∧ Kept [B, ob, eb] w w' := by
  have hlt := lt_of_block hB
  have hot := lt_of_block ho
  have het := lt_of_block he
  have n1 : ob ≠ B := by rintro rfl; rw [hB] at ho; simp at ho
  have n2 : eb ≠ B := by rintro rfl; rw [hB] at he; simp at he
  have n3 : ob ≠ eb := by rintro rfl; rw [ho] at he; simp at he
  have H := Lib.hid hB; have HL := Lib.hid hL; have Ho := Lib.hid ho; have He := Lib.hid he; have Hv := Lib.hid hv; clear hB hL ho he hv
  go_enter Tryz.func61, Tryz.ntmps61
  go_wp2_with fail
  refine (clo39_no j most B lb mb a0 _ HL.out h1000 hm H.out hl hmb Hv.out hB1).mono ?_
  rintro e w1 ⟨rfl, hk⟩
  have bo := (hk.block _ hot (by simp [n1])).trans Ho.out
  have be := (hk.block _ het (by simp [n2])).trans He.out
  have co := one_cell bo
  have fo := one_free bo 0
  have ce := one_cell be
  have fe := one_free be 0
  have r1 := fun (X : World) (u : Value) => cell_set_other n3 0 0 X u
  have Hk := Lib.hid hk; have Bo := Lib.hid bo; have Be := Lib.hid be
  clear hk bo be hl hmb hf
  unfold errV
  go_wp2_with fail
  go_end0
  have q1 := Hk.out.size
  refine ⟨rfl, ?_, ?_⟩
  · refine one_set (v := .nilIface) ?_ _
    rw [heap_set (by simp; omega)]; exact Be.out
  · exact ((Hk.out.mono (Y := [B, ob, eb]) (by simp)).setCell (.inr (by simp)) _).setCell (.inr (by simp)) _
end Go.Proofs.YtfkecmlmnhbmoaaGreatDoor
namespace Go.Proofs.YtfkecmlmnhbmoaaGreatDoor
open Go.RowKit
theorem catch_idle (p : Addr) (w : World) :
    CallsD Tryz.prog 77 #[.pointer (some p)] .returning w fun e u' w' => e = .returned (.tuple #[]) ∧ u' = .returning ∧ w = w' := by
  refine callsD_of_wpS Tryz.func77 rfl fun c₀ cs hu => ?_
  apply wpS_seq
  apply wpS_region
  simp [wpOpsS, go_sem, recoverD, hu, Tryz.ntmps77, Exit.thenS]
  refine wpS_cond (t := false) (by simp [Act.eval, Array.replicate]) ?_
  simp only [Bool.false_eq_true, if_false]
  refine wpS_of_wp (wp_skip ?_)
  cases c₀
  simp_all [bodyPostS, results, Tryz.results77]
set_option maxRecDepth 100000 in
set_option maxHeartbeats 1000000 in
theorem calm_ok (c0 c1 c2 c3 : Value) (Q : World → Prop) (w : World)
    (hf : Calls Tryz.prog 61 #[c0, c1, c2, c3] (w.alloc (.cells #[.bool false] 4)) fun e w' => e = .returned (.tuple #[]) ∧ Q w' ∧ w'.heap[w.heap.size]? = some (.cells #[.bool false] 4 (0, 0))) :
    Calls Tryz.prog 60 #[.func (.func 61) #[] #[c0, c1, c2, c3]] w fun e w'' => ∃ w', e = .returned (.bool true) ∧ Q w' ∧ w'' = w'.setCell ⟨w.heap.size, 0, none⟩ (.bool true) := by
  have hmf : ∀ (fn : Fn) (first cap : Array Value) (w : World), (Instr.makeFunc fn first cap).run Tryz.prog w = .ok (.func fn first cap) w := fun _ _ _ _ => rfl
  have HF := Lib.hid hf; clear hf
  go_enter_defers Tryz.func60, Tryz.ntmps60
  go_wp2_with fail
  refine HF.out.mono ?_
  rintro e w1 ⟨rfl, hq, hb⟩
  have hc := one_cell hb
  have hz := one_free hb 0
  have HQ := Lib.hid hq; have HB := Lib.hid hb; clear hq hb
  go_wp2_with fail
  refine leaves_cons (f := 77) (args := #[.pointer (some ⟨w.heap.size, 0, none⟩)]) (by simp) (by simp [go_sem]) ?_
  refine (catch_idle ⟨w.heap.size, 0, none⟩ _).mono ?_
  rintro e u' w'' ⟨rfl, rfl, rfl⟩
  simp [Leaves, settle, results, Tryz.results60, go_sem, hc]
  exact ⟨_, HQ.out, rfl⟩
end Go.Proofs.YtfkecmlmnhbmoaaGreatDoor
