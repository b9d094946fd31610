import Derived.Test.YtfkecmlmnhbmoaaGreatDoorDi
namespace Go.Proofs.YtfkecmlmnhbmoaaGreatDoor
open Go.RowKit
set_option maxRecDepth 100000 in
set_option maxHeartbeats 1000000 in
theorem clo39_ok (j : Nat) (most : Int) (B lb mb : Nat) (w : World) (hL : (j : Int) ≤ most) (h1000 : most ≤ 1000) (hm : 0 < most) (hB : w.heap[B]? = some (.cells #[.string (Br (j + 1) (j + 1))] 9 (0, 0)))
    (hl : w.cell? ⟨lb, 0, none⟩ = some (.int .i64 0)) (hmb : w.cell? ⟨mb, 0, none⟩ = some (.int .i64 most)) :
    Calls Tryz.prog 39 #[.pointer (some ⟨B, 0, none⟩), .pointer (some ⟨lb, 0, none⟩), .pointer (some ⟨mb, 0, none⟩)] w fun e w' =>
      ∃ v, e = .returned (.tuple #[v, .nilIface]) ∧ Nest w' w.heap.size j v ∧ w'.heap[B]? = some (.cells #[.string (Br 0 0)] 9 (0, 0)) ∧ Kept [B] w w' := by
  have hlt := lt_of_block hB
  have H := Lib.hid hB; have HL := Lib.hid hL; clear hB hL
  go_enter Tryz.func39, Tryz.ntmps39
  go_wp2_with fail
  refine (pctx_ok j most B w.heap.size _ HL.out h1000 hm ?_ ?_).mono ?_
  case _ => rw [heap_lt hlt]; exact H.out
  case _ => rw [World.cell?_alloc_at _ _ _ _ rfl]; rfl
  rintro e w1 ⟨v, rfl, hn, hb2, hk⟩
  have Hb2 := Lib.hid hb2; clear hb2
  have K1 : Kept [B] w w1 := Kept.trans (Z := [B]) ((Kept.refl [] w).alloc _) hk (by simp) (fun y hy _ => hy)
  have HK1 := Lib.hid K1; have Hn := Lib.hid hn; clear K1 hn hk hl hmb
  obtain ⟨va, vn, vc, rfl⟩ := Hn.out.iface
  go_wp2_with fail
  go_ret2
  exact ⟨_, rfl, Nest.mono (by simp) Hn.out, Hb2.out, HK1.out⟩
set_option maxRecDepth 100000 in
set_option maxHeartbeats 1000000 in
theorem clo39_no (j : Nat) (most : Int) (B lb mb : Nat) (a0 : Addr) (w : World) (hL : most < j) (h1000 : most ≤ 1000) (hm : 0 < most) (hB : w.heap[B]? = some (.cells #[.string (Br (j + 1) (j + 1))] 9 (0, 0)))
    (hl : w.cell? ⟨lb, 0, none⟩ = some (.int .i64 0)) (hmb : w.cell? ⟨mb, 0, none⟩ = some (.int .i64 most)) (hv : w.cell? ⟨1, 0, none⟩ = some (errV a0)) (hB1 : B ≠ 1) :
    Calls Tryz.prog 39 #[.pointer (some ⟨B, 0, none⟩), .pointer (some ⟨lb, 0, none⟩), .pointer (some ⟨mb, 0, none⟩)] w fun e w' =>
      e = .returned (.tuple #[.nilIface, errV a0]) ∧ Kept [B] w w' := by
  have hlt := lt_of_block hB
  have h1t := lt_of_cell hv
  have H := Lib.hid hB; have HL := Lib.hid hL; have Hv := Lib.hid hv; clear hB hL hv
  go_enter Tryz.func39, Tryz.ntmps39
  go_wp2_with fail
  refine (pctx_no j most B w.heap.size a0 _ HL.out h1000 hm ?_ ?_ ?_ hB1).mono ?_
  case _ => rw [heap_lt hlt]; exact H.out
  case _ => rw [World.cell?_alloc_at _ _ _ _ rfl]; rfl
  case _ => exact (((Kept.refl [] w).alloc _).cell h1t (by simp)).trans Hv.out
  rintro e w1 ⟨rfl, hk⟩
  have K1 : Kept [B] w w1 := Kept.trans (Z := [B]) ((Kept.refl [] w).alloc _) hk (by simp) (fun y hy _ => hy)
  have HK1 := Lib.hid K1; clear K1 hk hl hmb
  unfold errV
  go_wp2_with fail
  go_ret2
  exact ⟨rfl, HK1.out⟩
set_option maxRecDepth 100000 in
set_option maxHeartbeats 1000000 in
theorem clo61_ok (j : Nat) (most : Int) (fb B ob eb lb mb : Nat) (w : World) (hL : (j : Int) ≤ most) (h1000 : most ≤ 1000) (hm : 0 < most) (hB : w.heap[B]? = some (.cells #[.string (Br (j + 1) (j + 1))] 9 (0, 0)))
    (hl : w.cell? ⟨lb, 0, none⟩ = some (.int .i64 0)) (hmb : w.cell? ⟨mb, 0, none⟩ = some (.int .i64 most))
    (hf : w.cell? ⟨fb, 0, none⟩ = some (.func (.func 39) #[] #[.pointer (some ⟨lb, 0, none⟩), .pointer (some ⟨mb, 0, none⟩)]))
    (ho : w.heap[ob]? = some (.cells #[.nilIface] 66 (0, 0))) (he : w.heap[eb]? = some (.cells #[.nilIface] 84 (0, 0))) :
    Calls Tryz.prog 61 #[.pointer (some ⟨fb, 0, none⟩), .pointer (some ⟨B, 0, none⟩), .pointer (some ⟨ob, 0, none⟩), .pointer (some ⟨eb, 0, none⟩)] w fun e w' =>
      ∃ v, e = .returned (.tuple #[]) ∧ Nest w' w.heap.size j v ∧ w'.heap[ob]? = some (.cells #[v] 66 (0, 0)) ∧ w'.heap[eb]? = some (.cells #[.nilIface] 84 (0, 0)) ∧ w'.heap[B]? = some (.cells #[.string (Br 0 0)] 9 (0, 0)) ∧ Kept [B, ob, eb] w w' := by
  have hlt := lt_of_block hB
  have hot := lt_of_block ho
  have het := lt_of_block he
  have n1 : ob ≠ B := by rintro rfl; rw [hB] at ho; simp at ho
  have n2 : eb ≠ B := by rintro rfl; rw [hB] at he; simp at he
  have n3 : ob ≠ eb := by rintro rfl; rw [ho] at he; simp at he
  have H := Lib.hid hB; have HL := Lib.hid hL; have Ho := Lib.hid ho; have He := Lib.hid he; clear hB hL ho he
  go_enter Tryz.func61, Tryz.ntmps61
  go_wp2_with fail
  refine (clo39_ok j most B lb mb _ HL.out h1000 hm H.out hl hmb).mono ?_
  rintro e w1 ⟨v, rfl, hn, hb2, hk⟩
  have Hb2 := Lib.hid hb2; clear hb2
  obtain ⟨va, vn, vc, rfl⟩ := hn.iface
  have bo := (hk.block _ hot (by simp [n1])).trans Ho.out
  have be := (hk.block _ het (by simp [n2])).trans He.out
  have co := one_cell bo
  have fo := one_free bo 0
  have ce := one_cell be
  have fe := one_free be 0
  have r1 := fun (X : World) (u : Value) => cell_set_other n3 0 0 X u
  have Hk := Lib.hid hk; have Hn := Lib.hid hn; have Bo := Lib.hid bo; have Be := Lib.hid be
  clear hk hn bo be hl hmb hf
  go_wp2_with fail
  go_end0
  have q1 := Hk.out.size
  refine ⟨.iface 70 (.slice va vn vc), rfl, ?_, ?_, ?_, ?_, ?_⟩
  · exact Hn.out.kept (X := [ob, eb]) (((Kept.refl _ w1).setCell (.inr (by simp)) _).setCell (.inr (by simp)) _) (by simp; omega)
  · rw [heap_set (by simp; omega)]; exact one_set Bo.out _
  · refine one_set (v := .nilIface) ?_ _
    rw [heap_set (by simp; omega)]; exact Be.out
  · rw [heap_set (by simp; omega), heap_set (by simp; omega)]; exact Hb2.out
  · exact ((Hk.out.mono (Y := [B, ob, eb]) (by simp)).setCell (.inr (by simp)) _).setCell (.inr (by simp)) _
set_option maxRecDepth 100000 in
set_option maxHeartbeats 1000000 in
theorem clo61_no (j : Nat) (most : Int) (fb B ob eb lb mb : Nat) (a0 : Addr) (w : World) (hL : most < j) (h1000 : most ≤ 1000) (hm : 0 < most) (hB : w.heap[B]? = some (.cells #[.string (Br (j + 1) (j + 1))] 9 (0, 0)))
    (hl : w.cell? ⟨lb, 0, none⟩ = some (.int .i64 0)) (hmb : w.cell? ⟨mb, 0, none⟩ = some (.int .i64 most))
    (hf : w.cell? ⟨fb, 0, none⟩ = some (.func (.func 39) #[] #[.pointer (some ⟨lb, 0, none⟩), .pointer (some ⟨mb, 0, none⟩)]))
    (ho : w.heap[ob]? = some (.cells #[.nilIface] 66 (0, 0))) (he : w.heap[eb]? = some (.cells #[.nilIface] 84 (0, 0))) (hv : w.cell? ⟨1, 0, none⟩ = some (errV a0)) (hB1 : B ≠ 1) :
    Calls Tryz.prog 61 #[.pointer (some ⟨fb, 0, none⟩), .pointer (some ⟨B, 0, none⟩), .pointer (some ⟨ob, 0, none⟩), .pointer (some ⟨eb, 0, none⟩)] w fun e w' =>
      e = .returned (.tuple #[]) ∧ w'.heap[eb]? = some (.cells #[errV a0] 84 (0, 0)) ∧ Kept [B, ob, eb] w w' := by
  have hlt := lt_of_block hB
  have hot := lt_of_block ho
  have het := lt_of_block he
  have n1 : ob ≠ B := by rintro rfl; rw [hB] at ho; simp at ho
  have n2 : eb ≠ B := by rintro rfl; rw [hB] at he; simp at he
  have n3 : ob ≠ eb := by rintro rfl; rw [ho] at he; simp at he
  have H := Lib.hid hB; have HL := Lib.hid hL; have Ho := Lib.hid ho; have He := Lib.hid he; have Hv := Lib.hid hv; clear hB hL ho he hv
  go_enter Tryz.func61, Tryz.ntmps61
  go_wp2_with fail
  refine (clo39_no j most B lb mb a0 _ HL.out h1000 hm H.out hl hmb Hv.out hB1).mono ?_
  rintro e w1 ⟨rfl, hk⟩
  have bo := (hk.block _ hot (by simp [n1])).trans Ho.out
  have be := (hk.block _ het (by simp [n2])).trans He.out
  have co := one_cell bo
  have fo := one_free bo 0
  have ce := one_cell be
  have fe := one_free be 0
  have r1 := fun (X : World) (u : Value) => cell_set_other n3 0 0 X u
  have Hk := Lib.hid hk; have Bo := Lib.hid bo; have Be := Lib.hid be
  clear hk bo be hl hmb hf
  unfold errV
  go_wp2_with fail
  go_end0
  have q1 := Hk.out.size
  refine ⟨rfl, ?_, ?_⟩
  · refine one_set (v := .nilIface) ?_ _
    rw [heap_set (by simp; omega)]; exact Be.out
  · exact ((Hk.out.mono (Y := [B, ob, eb]) (by simp)).setCell (.inr (by simp)) _).setCell (.inr (by simp)) _
end Go.Proofs.YtfkecmlmnhbmoaaGreatDoor
