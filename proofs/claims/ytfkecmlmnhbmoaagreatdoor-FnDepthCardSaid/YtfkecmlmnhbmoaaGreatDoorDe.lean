import Derived.Test.YtfkecmlmnhbmoaaGreatDoorDd
namespace Go.Proofs.YtfkecmlmnhbmoaaGreatDoor
open Go.RowKit
def CtxOk (j : Nat) : Prop := ∀ (most L : Int) (k B : Nat) (r : Bool) (w : World), L = (k : Int) → (k : Int) + j ≤ most → most ≤ 1000 → 0 < most → w.heap[B]? = some (.cells #[.string (Br (j + 1) (j + 1 + k))] 9 (0, 0)) →
    Calls Tryz.prog 64 #[.agg #[], .pointer (some ⟨B, 0, none⟩), .int .i64 L, .int .i64 most, .bool r] w fun e w' =>
      ∃ v, e = .returned (.tuple #[v, .nilIface]) ∧ Nest w' w.heap.size j v ∧ w'.heap[B]? = some (.cells #[.string (Br 0 k)] 9 (0, 0)) ∧ Kept [B] w w'
def ArrOk (j : Nat) : Prop := ∀ (most L : Int) (k B : Nat) (r : Bool) (w : World), L = (k : Int) → (k : Int) + j ≤ most → most ≤ 1000 → 0 < most → w.heap[B]? = some (.cells #[.string (Br (j + 1) (j + 1 + k))] 9 (0, 0)) →
    Calls Tryz.prog 105 #[.agg #[], .pointer (some ⟨B, 0, none⟩), .int .i64 L, .int .i64 most, .bool r] w fun e w' =>
      ∃ q s, e = .returned (.tuple #[.pointer (some ⟨q, 0, none⟩), .nilIface]) ∧ w.heap.size ≤ q ∧ w'.cell? ⟨q, 0, none⟩ = some s ∧ Nest w' w.heap.size j (.iface 70 s) ∧ w'.heap[B]? = some (.cells #[.string (Br 0 k)] 9 (0, 0)) ∧ Kept [B] w w'

theorem arr_ok0 : ArrOk 0 := by
  intro most L k B r w hLk h1 h2 h3 hB
  rw [show 0 + 1 + k = k + 1 from by omega] at hB
  refine (arr_zero L most k B r w (by omega) h3 hB).mono ?_
  rintro e w' ⟨q, g, rfl, hq, hg, hc, hb, hk⟩
  exact ⟨q, _, rfl, hq, hc, ⟨g, hg, rfl⟩, hb, hk⟩

theorem Tryz.info66 : (Tryz.prog.info? 66).map (fun i => (i.zero, i.size, i.bytes)) = some (some .nilIface, 1, 16) := by kernel_rfl

set_option maxRecDepth 100000 in
set_option maxHeartbeats 1000000 in
theorem arr_succ (j : Nat) (hctx : CtxOk j) : ArrOk (j + 1) := by
  intro most L k B r w hLk0 hL h1000 hm hB
  have HLk := Lib.hid hLk0; have hLlo : 0 ≤ L := by omega
  have hLhi : L ≤ 1000 := by omega
  have hc := one_cell hB
  have hf := one_free hB 0
  have hlt := lt_of_block hB
  have H := Lib.hid hB; clear hB
  obtain ⟨l1, l2, l3, l4, l5, l6⟩ := lt6 hlt
  have e1 : j + 1 + 1 + k = j + 1 + (k + 1) := by omega
  rw [e1] at hc
  have He1 := Lib.hid e1; clear e1
  have z1 : (((Br (j + 1 + 1) (j + 1 + (k + 1))).size : Int) == 0) = false := by rw [Br_size, beq_eq_false_iff_ne]; omega
  have z2 : (((Br (j + 1 + 1) (j + 1 + (k + 1))).size : Int) == 1) = false := by rw [Br_size, beq_eq_false_iff_ne]; omega
  have z3 : (((Br (j + 1) (j + 1 + (k + 1))).size : Int) == 0) = false := by rw [Br_size, beq_eq_false_iff_ne]; omega
  have z4 : (((Br 0 (k + 1)).size : Int) == 0) = false := by rw [Br_size, beq_eq_false_iff_ne]; omega
  have hLk : L ≤ most := by omega
  have HL := Lib.hid hL; clear hLk0 hL
  have Hctx := Lib.hid hctx; clear hctx
  go_enter Tryz.func105, Tryz.ntmps105
  go_wp2_with (first | (go_at_call 79; refine (check_ok _ _ _ _ hm hLk).mono ?_; rintro e w' ⟨rfl, rfl⟩) | (go_at_call 130; refine (hasp_open _ _ _).mono ?_; rintro e w' ⟨rfl, rfl⟩) | (go_at_call 110; refine (fwd_open _ _ _ (by omega)).mono ?_; rintro e w' ⟨rfl, rfl⟩) | (go_at_call 80; refine (trim_br _ _ _ (by omega)).mono ?_; rintro e w' ⟨rfl, rfl⟩))
  refine wp_loop_rounds 2 ?_
  rw [rounds_succ]
  go_wp2_with (first | (go_at_call 130; refine (hasp_no _ _ _).mono ?_; rintro e w' ⟨rfl, rfl⟩))
  refine (Hctx.out most _ (k + 1) (w.heap.size + 1) r _ (by have := HLk.out; omega) (by have := HL.out; omega) h1000 hm ?_).mono ?_
  case _ => rw [heap_lt, heap_lt, heap_lt, heap_at] <;> (first | rfl | omega | (simp only [World.size_alloc, World.size_setCell, World.size_drew]; omega) | (simp only [World.size_alloc, World.size_setCell, World.size_drew]) | (simp; omega))
  rintro e w1 ⟨v, rfl, hnest, hl1, hk1⟩
  obtain ⟨va, vn, vc, rfl⟩ := hnest.iface
  have q1 := hk1.size
  simp only [World.size_alloc] at q1 hnest
  have hkw : Kept [] w w1 := Kept.trans (Z := []) ((((((Kept.refl [] w).alloc _).alloc _).alloc _).alloc _).alloc _) hk1 (by simp) (fun y hy hl => by simp at hy; omega)
  have ca : w1.cell? ⟨w.heap.size + 1 + 1 + 1 + 1, 0, none⟩ = some (.slice (some ⟨w.heap.size + 1 + 1 + 1, 0, none⟩) 0 0) := by
    rw [hk1.cell (by first | omega | (simp only [World.size_alloc, World.size_setCell, World.size_drew]; omega) | (simp; omega)) (by first | (simp only [List.mem_singleton, List.mem_nil_iff, not_false_eq_true]; omega) | (simp; omega) | simp), World.cell?_alloc_at _ _ _ _ (by simp)]; rfl
  have fa : w1.frozen? ⟨w.heap.size + 1 + 1 + 1 + 1, 0, none⟩ = false := by
    rw [hk1.frozen (by first | omega | (simp only [World.size_alloc, World.size_setCell, World.size_drew]; omega) | (simp; omega)) (by first | (simp only [List.mem_singleton, List.mem_nil_iff, not_false_eq_true]; omega) | (simp; omega) | simp), World.frozen?_alloc_at _ _ _ _ (by simp)]
  have ba : w1.heap[w.heap.size + 1 + 1 + 1]? = some (.cells #[] 66 (0, 0)) := by
    rw [hk1.block _ (by first | omega | (simp only [World.size_alloc, World.size_setCell, World.size_drew]; omega) | (simp; omega)) (by first | (simp only [List.mem_singleton, List.mem_nil_iff, not_false_eq_true]; omega) | (simp; omega) | simp), heap_lt, heap_at] <;> (first | rfl | omega | (simp only [World.size_alloc, World.size_setCell, World.size_drew]; omega) | (simp only [World.size_alloc, World.size_setCell, World.size_drew]) | (simp; omega))
  have cl := one_cell hl1
  have fl := one_free hl1 0
  have Hl1 := Lib.hid hl1; have Hk1 := Lib.hid hk1; have Hkw := Lib.hid hkw; have Hba := Lib.hid ba; have Hn := Lib.hid hnest
  clear hl1 hk1 hkw ba hnest l1 l2 l3 l4 l5 l6 hc hf z1 z2 z3
  obtain ⟨l1, l2, l3, l4, l5, l6⟩ := lt6 (show w.heap.size + 1 < w1.heap.size by omega)
  obtain ⟨m1, m2, m3, m4, m5, m6⟩ := lt6 (show w.heap.size + 1 + 1 + 1 + 1 < w1.heap.size by omega)
  have hown : w1.ownsRow w.heap.size 66 1 (.slice (some ⟨w.heap.size + 1 + 1 + 1, 0, none⟩) 0 0) 0 [] :=
    ⟨rfl, Or.inr ⟨w.heap.size + 1 + 1 + 1, 0, #[], rfl, by omega, Hba.out, Nat.le_refl _, by decide, rfl, rfl⟩⟩
  obtain ⟨i0, hi, hz0, hz1, hz2⟩ := info_parts Tryz.info66
  go_wp2_with (at_builtin; go_must (refine wpList_append_own _ rfl _ _ 70 rfl w.heap.size 66 i0 .nilIface 1 16 Tryz.underlying70 hi hz0 hz1 hz2 rfl (by decide) _ 0 [] rfl (hown.alloc _) ⟨w1.heap.size, 0, none⟩ 1 1 [.iface 70 (.slice va vn vc)] rfl rfl ?c1 ?c2 ?c3 ?c4 ?c5 ?_))
  case c1 => exact cell_one_new _ _ _
  case c2 => simp [Value.oneCell']
  case c3 => decide
  case c4 => decide
  case c5 => first | rfl | omega | (simp only [World.size_alloc, World.size_setCell, World.size_drew]; omega) | (simp only [World.size_alloc, World.size_setCell, World.size_drew]) | (simp; omega)
  intro v2 w2 hown2 hg2 _
  have hk2 : Kept [w.heap.size + 1 + 1 + 1] w1 w2 :=
    Kept.trans (X := []) ((Kept.refl [] w1).alloc _) (Kept.of_grown hg2 (fun k hk => by simp [Value.ownBlock] at hk; simp [hk])) (by simp) (fun y hy _ => hy)
  obtain ⟨hlen, ho | ⟨g2, cap, cur, hv2, hg3, hh, hcap1, hcap2, hcs, htk⟩⟩ := hown2
  · exact absurd ho.2 (by decide)
  subst hv2
  have q2 := hk2.size
  have cl2 := (hk2.cell (b := w.heap.size + 1) (o := 0) (by omega) (by first | (simp only [List.mem_singleton, List.mem_nil_iff, not_false_eq_true]; omega) | (simp; omega) | simp)).trans cl
  have fl2 := (hk2.frozen (b := w.heap.size + 1) (o := 0) (by omega) (by first | (simp only [List.mem_singleton, List.mem_nil_iff, not_false_eq_true]; omega) | (simp; omega) | simp)).trans fl
  have ca2 := (hk2.cell (b := w.heap.size + 1 + 1 + 1 + 1) (o := 0) (by omega) (by first | (simp only [List.mem_singleton, List.mem_nil_iff, not_false_eq_true]; omega) | (simp; omega) | simp)).trans ca
  have fa2 := (hk2.frozen (b := w.heap.size + 1 + 1 + 1 + 1) (o := 0) (by omega) (by first | (simp only [List.mem_singleton, List.mem_nil_iff, not_false_eq_true]; omega) | (simp; omega) | simp)).trans fa
  have cB2 := (hk2.cell (b := B) (o := 0) (by omega) (by first | (simp only [List.mem_singleton, List.mem_nil_iff, not_false_eq_true]; omega) | (simp; omega) | simp)).trans ((Hkw.out.cell hlt (by simp)).trans (one_cell H.out))
  have fB2 := (hk2.frozen (b := B) (o := 0) (by omega) (by first | (simp only [List.mem_singleton, List.mem_nil_iff, not_false_eq_true]; omega) | (simp; omega) | simp)).trans ((Hkw.out.frozen hlt (by simp)).trans (one_free H.out 0))
  have Hk2 := Lib.hid hk2
  clear hk2 hg2 cl fl ca fa hown l1 l2 l3 l4 l5 l6 m1 m2 m3 m4 m5 m6
  have Hlen := Lib.hid hlen; have Hhh := Lib.hid hh; have Hcs := Lib.hid hcs; have Htk := Lib.hid htk
  clear hlen hh hcs htk hi hz0 hz1 hz2
  obtain ⟨l1, l2, l3, l4, l5, l6⟩ := lt6 (show w.heap.size + 1 < w2.heap.size by omega)
  obtain ⟨m1, m2, m3, m4, m5, m6⟩ := lt6 (show w.heap.size + 1 + 1 + 1 + 1 < w2.heap.size by omega)
  obtain ⟨n1, n2, n3, n4, n5, n6⟩ := lt6 (show B < w2.heap.size by omega)
  have l0 : w.heap.size + 1 < w2.heap.size := by omega
  have m0 : w.heap.size + 1 + 1 + 1 + 1 < w2.heap.size := by omega
  have n0 : B < w2.heap.size := by omega
  have r1 := fun (X : World) (u : Value) => cell_set_other (show w.heap.size + 1 ≠ B by omega) 0 0 X u
  have r2 := fun (X : World) (u : Value) => cell_set_other (show w.heap.size + 1 + 1 + 1 + 1 ≠ B by omega) 0 0 X u
  have r1' := fun (X : World) (u : Value) => cell_set_other (show w.heap.size + 1 ≠ w.heap.size + 1 + 1 + 1 + 1 by omega) 0 0 X u
  have r3 := fun (X : World) (u : Value) => cell_set_other (show w.heap.size + 1 + 1 + 1 + 1 ≠ w.heap.size + 1 by omega) 0 0 X u
  go_wp2_with (first | (go_at_call 80; refine (trim_br _ _ _ (by omega)).mono ?_; rintro e w' ⟨rfl, rfl⟩))
  rw [rounds_succ]
  go_wp2_with (first | (go_at_call 130; refine (hasp_close _ _).mono ?_; rintro e w' ⟨rfl, rfl⟩) | (go_at_call 110; refine (fwd_close _ _).mono ?_; rintro e w' ⟨rfl, rfl⟩))
  go_ret2
  have K2 : Kept [] w w2 := Hkw.out.trans Hk2.out (by simp) (fun y hy hl => by simp at hy; omega)
  have b2l : w2.heap[w.heap.size + 1]? = some (.cells #[.string (Br 0 (k + 1))] 9 (0, 0)) := (Hk2.out.block _ (by omega) (by first | (simp only [List.mem_singleton, List.mem_nil_iff, not_false_eq_true]; omega) | (simp; omega) | simp)).trans Hl1.out
  have b2B : w2.heap[B]? = some (.cells #[.string (Br (j + 1 + 1) (j + 1 + 1 + k))] 9 (0, 0)) := (K2.block _ hlt (by simp)).trans H.out
  have b2a : w2.heap[w.heap.size + 1 + 1 + 1 + 1]? = some (.cells #[.slice (some ⟨w.heap.size + 1 + 1 + 1, 0, none⟩) 0 0] 70 (0, 0)) := by
    rw [Hk2.out.block _ (by omega) (by first | (simp only [List.mem_singleton, List.mem_nil_iff, not_false_eq_true]; omega) | (simp; omega) | simp), Hk1.out.block _ (by first | omega | (simp only [World.size_alloc, World.size_setCell, World.size_drew]; omega) | (simp; omega)) (by first | (simp only [List.mem_singleton, List.mem_nil_iff, not_false_eq_true]; omega) | (simp; omega) | simp), heap_at] <;> (first | rfl | omega | (simp only [World.size_alloc, World.size_setCell, World.size_drew]; omega) | (simp only [World.size_alloc, World.size_setCell, World.size_drew]) | (simp; omega))
  have gl : g2 ≠ w.heap.size + 1 := by rintro rfl; rw [b2l] at Hhh; have := Hhh.out; simp at this
  have gB : g2 ≠ B := by rintro rfl; rw [b2B] at Hhh; have := Hhh.out; simp at this
  have ga : g2 ≠ w.heap.size + 1 + 1 + 1 + 1 := by rintro rfl; rw [b2a] at Hhh; have := Hhh.out; simp at this
  have hg2lt := lt_of_block Hhh.out
  have c2g : w2.cell? ⟨g2, 0, none⟩ = some (.iface 70 (.slice va vn vc)) := by
    have h1 := Hhh.out
    have h2 := Htk.out
    simp only [World.cell?, h1]
    have h3 : (cur.toList.take (1 * 1))[0]? = some (.iface 70 (.slice va vn vc)) := by rw [h2]; rfl
    simpa using h3
  have KF : ∀ (X : World), Kept [w.heap.size + 1 + 1 + 1 + 1, w.heap.size + 1, B] w2 X → Nest X (w.heap.size + 1 + 1 + 1 + 1 + 1) j (.iface 70 (.slice va vn vc)) := fun X hX =>
    (Hn.out.kept Hk2.out (by simp)).kept hX (by simp; omega)
  have KK : Kept [w.heap.size + 1 + 1 + 1 + 1, w.heap.size + 1, B] w2 (((((w2.setCell ⟨w.heap.size + 1 + 1 + 1 + 1, 0, none⟩ (.slice (some ⟨g2, 0, none⟩) 1 cap)).setCell ⟨w.heap.size + 1, 0, none⟩ (.string (Br 0 (k + 1)))).setCell ⟨w.heap.size + 1, 0, none⟩ (.string (Br 0 k))).setCell ⟨B, 0, none⟩ (.string (Br 0 k))).alloc (.stringIter (Br 0 (k + 1)) 1)) :=
    (((((Kept.refl _ w2).setCell (.inr (by simp)) _).setCell (.inr (by simp)) _).setCell (.inr (by simp)) _).setCell (.inr (by simp)) _).alloc _
  refine ⟨w.heap.size + 1 + 1 + 1 + 1, .slice (some ⟨g2, 0, none⟩) 1 cap, rfl, by omega, ?_, ⟨g2, cap, _, hg3, Nat.lt_of_lt_of_le hg2lt KK.size, rfl, ?_, Nest.mono (by omega) (KF _ KK)⟩, ?_, ?_⟩
  · rw [World.cell?_alloc_lt, cell_set_other (by omega), r1', r1', World.cell?_setCell_same _ _ _ ca2]
    simp [World.setCell]; omega
  · rw [KK.cell hg2lt (by simp; omega)]
    exact c2g
  · rw [heap_lt (by simp [World.setCell]; omega)]
    refine one_set (v := .string (Br (j + 1 + 1) (j + 1 + 1 + k))) ?_ _
    rw [heap_set, heap_set, heap_set, b2B] <;> (simp; omega)
  · exact (((((K2.mono (Y := [B]) (by simp)).setCell (.inl (by simp; omega)) _).setCell (.inl (by simp)) _).setCell (.inl (by simp)) _).setCell (.inr (by simp)) _).alloc _
end Go.Proofs.YtfkecmlmnhbmoaaGreatDoor
