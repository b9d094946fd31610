import Derived.Test.YtfkecmlmnhbmoaaGreatDoorDl
namespace Go.Proofs.YtfkecmlmnhbmoaaGreatDoor
open Go.RowKit
abbrev arrAgg (sa : Option Addr) (sn sc : Nat) : Value := .agg #[.int .i64 7, .int .i64 0, .int .i64 0, .float .f64 0, .string ⟨#[]⟩, .slice none 0 0, .slice sa sn sc]
abbrev zeroAgg : Value := .agg #[.int .i64 0, .int .i64 0, .int .i64 0, .float .f64 0, .string ⟨#[]⟩, .slice none 0 0, .slice none 0 0]
set_option maxRecDepth 100000 in
set_option maxHeartbeats 2000000 in
theorem read_ok (j : Nat) (most : Int) (lb mb : Nat) (w : World) (hL : (j : Int) ≤ most) (h1000 : most ≤ 1000) (hm : 0 < most)
    (hl : w.cell? ⟨lb, 0, none⟩ = some (.int .i64 0)) (hmb : w.cell? ⟨mb, 0, none⟩ = some (.int .i64 most)) :
    Calls Tryz.prog 38 #[.string (Br (j + 1) (j + 1)), .func (.func 39) #[] #[.pointer (some ⟨lb, 0, none⟩), .pointer (some ⟨mb, 0, none⟩)]] w fun e w' =>
      ∃ sa sn sc s, e = .returned (.tuple #[arrAgg sa sn sc, .string s, .bool true]) ∧ Kept [] w w' := by
  have hmf : ∀ (fn : Fn) (first cap : Array Value) (w : World), (Instr.makeFunc fn first cap).run Tryz.prog w = .ok (.func fn first cap) w := fun _ _ _ _ => rfl
  have hlt := lt_of_cell hl
  have hmt := lt_of_cell hmb
  have HL := Lib.hid hL; have Hl := Lib.hid hl; have Hmb := Lib.hid hmb; clear hL hl hmb
  go_enter Tryz.func38, Tryz.ntmps38
  go_wp2_with fail
  have K0 : ∀ o : Obj, Kept [] w ((((((w.alloc (.cells #[.func (.func 39) #[] #[.pointer (some ⟨lb, 0, none⟩), .pointer (some ⟨mb, 0, none⟩)]] 89)).alloc (.cells #[.int .i64 0, .int .i64 0, .int .i64 0, .float .f64 0, .string ⟨#[]⟩, .slice none 0 0, .slice none 0 0] 26)).alloc (.cells #[.string (Br (j + 1) (j + 1))] 9)).alloc (.cells #[.nilIface] 66)).alloc (.cells #[.nilIface] 84)).alloc o) := fun o => ((((((Kept.refl [] w).alloc _).alloc _).alloc _).alloc _).alloc _).alloc _
  refine (calm_ok _ _ _ _ (fun w' => ∃ v, Nest w' (w.heap.size + 1 + 1 + 1 + 1 + 1 + 1) j v ∧ w'.heap[w.heap.size + 1 + 1 + 1]? = some (.cells #[v] 66 (0, 0)) ∧ w'.heap[w.heap.size + 1 + 1 + 1 + 1]? = some (.cells #[.nilIface] 84 (0, 0)) ∧ Kept [] w w' ∧ w'.heap[w.heap.size + 1]? = some (.cells #[.int .i64 0, .int .i64 0, .int .i64 0, .float .f64 0, .string ⟨#[]⟩, .slice none 0 0, .slice none 0 0] 26 (0, 0)) ∧ w'.heap[w.heap.size + 1 + 1]? = some (.cells #[.string (Br 0 0)] 9 (0, 0))) _ ?_).mono ?_
  case _ =>
    refine (clo61_ok j most w.heap.size (w.heap.size + 1 + 1) (w.heap.size + 1 + 1 + 1) (w.heap.size + 1 + 1 + 1 + 1) lb mb _ HL.out h1000 hm ?_ ?_ ?_ ?_ ?_ ?_).mono ?_
    · rw [heap_lt, heap_lt, heap_lt, heap_at] <;> (first | rfl | omega | (simp only [World.size_alloc, World.size_setCell, World.size_drew]; omega) | (simp only [World.size_alloc, World.size_setCell, World.size_drew]) | (simp; omega))
    · exact ((K0 _).cell hlt (by simp)).trans Hl.out
    · exact ((K0 _).cell hmt (by simp)).trans Hmb.out
    · refine one_cell (t := 89) ?_
      rw [heap_lt, heap_lt, heap_lt, heap_lt, heap_lt, heap_at] <;> (first | rfl | omega | (simp only [World.size_alloc, World.size_setCell, World.size_drew]; omega) | (simp only [World.size_alloc, World.size_setCell, World.size_drew]) | (simp; omega))
    · rw [heap_lt, heap_lt, heap_at] <;> (first | rfl | omega | (simp only [World.size_alloc, World.size_setCell, World.size_drew]; omega) | (simp only [World.size_alloc, World.size_setCell, World.size_drew]) | (simp; omega))
    · rw [heap_lt, heap_at] <;> (first | rfl | omega | (simp only [World.size_alloc, World.size_setCell, World.size_drew]; omega) | (simp only [World.size_alloc, World.size_setCell, World.size_drew]) | (simp; omega))
    rintro e w1 ⟨v, rfl, hn, ho, he, hb, hk⟩
    simp only [World.size_alloc] at hn
    refine ⟨rfl, ⟨v, hn, ho, he, ?_, ?_, hb⟩, ?_⟩
    · exact (K0 _).trans hk (by simp) (fun y hy hl => by simp at hy; omega)
    · rw [hk.block _ (by first | omega | (simp only [World.size_alloc, World.size_setCell, World.size_drew]; omega) | (simp; omega)) (by first | (simp only [List.mem_singleton, List.mem_nil_iff, not_false_eq_true]; omega) | (simp; omega) | simp), heap_lt, heap_lt, heap_lt, heap_lt, heap_at] <;> (first | rfl | omega | (simp only [World.size_alloc, World.size_setCell, World.size_drew]; omega) | (simp only [World.size_alloc, World.size_setCell, World.size_drew]) | (simp; omega))
    · rw [hk.block _ (by first | omega | (simp only [World.size_alloc, World.size_setCell, World.size_drew]; omega) | (simp; omega)) (by first | (simp only [List.mem_singleton, List.mem_nil_iff, not_false_eq_true]; omega) | (simp; omega) | simp)]
      exact heap_at (by simp)
  rintro e W ⟨w1, rfl, ⟨v, hn, ho, he, hk, hx, hs⟩, hW⟩
  obtain ⟨va, vn, vc, rfl⟩ := hn.iface
  have q1 := hk.size
  have Kx : Kept [] w W := by rw [hW]; exact hk.setCell (.inl (by simp; omega)) _
  have hn2 : Nest W (w.heap.size + 1 + 1 + 1 + 1 + 1 + 1) j (.iface 70 (.slice va vn vc)) := by
    rw [hW]; exact hn.kept (X := [w.heap.size + 1 + 1 + 1 + 1 + 1]) ((Kept.refl _ w1).setCell (.inr (by simp)) _) (by simp)
  have ho2 : W.heap[w.heap.size + 1 + 1 + 1]? = some (.cells #[.iface 70 (.slice va vn vc)] 66 (0, 0)) := by rw [hW]; exact (heap_set (by simp)).trans ho
  have he2 : W.heap[w.heap.size + 1 + 1 + 1 + 1]? = some (.cells #[.nilIface] 84 (0, 0)) := by rw [hW]; exact (heap_set (by simp)).trans he
  have hx2 : W.heap[w.heap.size + 1]? = some (.cells #[.int .i64 0, .int .i64 0, .int .i64 0, .float .f64 0, .string ⟨#[]⟩, .slice none 0 0, .slice none 0 0] 26 (0, 0)) := by rw [hW]; exact (heap_set (by simp)).trans hx
  have hs2 : W.heap[w.heap.size + 1 + 1]? = some (.cells #[.string (Br 0 0)] 9 (0, 0)) := by rw [hW]; exact (heap_set (by simp)).trans hs
  have q2 := Kx.size
  clear hn ho he hk hx hs q1 K0 hW
  have co := one_cell ho2
  have ce := one_cell he2
  have HO := Lib.hid ho2; have HE := Lib.hid he2; have HX := Lib.hid hx2; have HS := Lib.hid hs2; have HN := Lib.hid hn2; have HKx := Lib.hid Kx
  clear ho2 he2 hx2 hs2 hn2 Kx
  go_wp2_with fail
  refine (tell_nest j _ _ _ HN.out).mono ?_
  rintro e w3 ⟨sa, sn, sc, rfl, hk3⟩
  have q3 := hk3.size
  have hx3 := (hk3.block _ (by have := lt_of_block HX.out; omega) (by simp)).trans HX.out
  have hs3 := (hk3.block _ (by have := lt_of_block HS.out; omega) (by simp)).trans HS.out
  have K3 : Kept [] w w3 := HKx.out.trans hk3 (by simp) (by simp)
  obtain ⟨⟨c0, c1, c2, c3, c4, c5, c6⟩, f0, f1, f2, f3, f4, f5, f6⟩ := seven hx3
  have cs := one_cell hs3
  have hoff := cell_set_off
  have r1 := fun (X : World) (i : Nat) (u : Value) => cell_set_other (show w.heap.size + 1 ≠ w.heap.size + 1 + 1 by omega) i 0 X u
  have HK3 := Lib.hid K3; have HX3 := Lib.hid hx3; have HS3 := Lib.hid hs3
  clear K3 hk3 hx3 hs3 co ce hmf
  go_wp2_with fail
  go_region
  go_wp2_with fail
  have hr := block7 (block7 HX3.out (.int .i64 7) (.int .i64 0) (.int .i64 0) (.float .f64 0) (.string ⟨#[]⟩) (.slice none 0 0) (.slice sa sn sc)) (.int .i64 7) (.int .i64 0) (.int .i64 0) (.float .f64 0) (.string ⟨#[]⟩) (.slice none 0 0) (.slice sa sn sc)
  have hkk := Kept.drew (kept7 (kept7 HK3.out (b := w.heap.size + 1) (.inl (by simp)) (.int .i64 7) (.int .i64 0) (.int .i64 0) (.float .f64 0) (.string ⟨#[]⟩) (.slice none 0 0) (.slice sa sn sc)) (b := w.heap.size + 1) (.inl (by simp)) (.int .i64 7) (.int .i64 0) (.int .i64 0) (.float .f64 0) (.string ⟨#[]⟩) (.slice none 0 0) (.slice sa sn sc))
  clear c0 c1 c2 c3 c4 c5 c6 f0 f1 f2 f3 f4 f5 f6 hoff r1 cs
  obtain ⟨⟨c0, c1, c2, c3, c4, c5, c6⟩, _⟩ := seven hr
  refine bodyPost_ret (v := .tuple #[arrAgg sa sn sc, .string (Br 0 0), .bool true]) (by simp [results, Tryz.results38, go_sem, c0, c1, c2, c3, c4, c5, c6]) rfl ⟨sa, sn, sc, Br 0 0, rfl, hkk⟩
set_option maxRecDepth 100000 in
set_option maxHeartbeats 2000000 in
theorem read_no (j : Nat) (most : Int) (lb mb : Nat) (a0 : Addr) (w : World) (hL : most < (j : Int)) (h1000 : most ≤ 1000) (hm : 0 < most)
    (hl : w.cell? ⟨lb, 0, none⟩ = some (.int .i64 0)) (hmb : w.cell? ⟨mb, 0, none⟩ = some (.int .i64 most)) (hv : w.cell? ⟨1, 0, none⟩ = some (errV a0)) :
    Calls Tryz.prog 38 #[.string (Br (j + 1) (j + 1)), .func (.func 39) #[] #[.pointer (some ⟨lb, 0, none⟩), .pointer (some ⟨mb, 0, none⟩)]] w fun e w' =>
      e = .returned (.tuple #[zeroAgg, .string ⟨#[]⟩, .bool false]) ∧ Kept [] w w' := by
  have hmf : ∀ (fn : Fn) (first cap : Array Value) (w : World), (Instr.makeFunc fn first cap).run Tryz.prog w = .ok (.func fn first cap) w := fun _ _ _ _ => rfl
  have hlt := lt_of_cell hl
  have hmt := lt_of_cell hmb
  have h1t := lt_of_cell hv
  have HL := Lib.hid hL; have Hl := Lib.hid hl; have Hmb := Lib.hid hmb; have Hv := Lib.hid hv; clear hL hl hmb hv
  go_enter Tryz.func38, Tryz.ntmps38
  go_wp2_with fail
  have K0 : ∀ o : Obj, Kept [] w ((((((w.alloc (.cells #[.func (.func 39) #[] #[.pointer (some ⟨lb, 0, none⟩), .pointer (some ⟨mb, 0, none⟩)]] 89)).alloc (.cells #[.int .i64 0, .int .i64 0, .int .i64 0, .float .f64 0, .string ⟨#[]⟩, .slice none 0 0, .slice none 0 0] 26)).alloc (.cells #[.string (Br (j + 1) (j + 1))] 9)).alloc (.cells #[.nilIface] 66)).alloc (.cells #[.nilIface] 84)).alloc o) := fun o => ((((((Kept.refl [] w).alloc _).alloc _).alloc _).alloc _).alloc _).alloc _
  refine (calm_ok _ _ _ _ (fun w' => w'.heap[w.heap.size + 1 + 1 + 1 + 1]? = some (.cells #[errV a0] 84 (0, 0)) ∧ Kept [] w w' ∧ w'.heap[w.heap.size + 1]? = some (.cells #[.int .i64 0, .int .i64 0, .int .i64 0, .float .f64 0, .string ⟨#[]⟩, .slice none 0 0, .slice none 0 0] 26 (0, 0))) _ ?_).mono ?_
  case _ =>
    refine (clo61_no j most w.heap.size (w.heap.size + 1 + 1) (w.heap.size + 1 + 1 + 1) (w.heap.size + 1 + 1 + 1 + 1) lb mb a0 _ HL.out h1000 hm ?_ ?_ ?_ ?_ ?_ ?_ ?_ (by omega)).mono ?_
    · rw [heap_lt, heap_lt, heap_lt, heap_at] <;> (first | rfl | omega | (simp only [World.size_alloc, World.size_setCell, World.size_drew]; omega) | (simp only [World.size_alloc, World.size_setCell, World.size_drew]) | (simp; omega))
    · exact ((K0 _).cell hlt (by simp)).trans Hl.out
    · exact ((K0 _).cell hmt (by simp)).trans Hmb.out
    · refine one_cell (t := 89) ?_
      rw [heap_lt, heap_lt, heap_lt, heap_lt, heap_lt, heap_at] <;> (first | rfl | omega | (simp only [World.size_alloc, World.size_setCell, World.size_drew]; omega) | (simp only [World.size_alloc, World.size_setCell, World.size_drew]) | (simp; omega))
    · rw [heap_lt, heap_lt, heap_at] <;> (first | rfl | omega | (simp only [World.size_alloc, World.size_setCell, World.size_drew]; omega) | (simp only [World.size_alloc, World.size_setCell, World.size_drew]) | (simp; omega))
    · rw [heap_lt, heap_at] <;> (first | rfl | omega | (simp only [World.size_alloc, World.size_setCell, World.size_drew]; omega) | (simp only [World.size_alloc, World.size_setCell, World.size_drew]) | (simp; omega))
    · exact ((K0 _).cell h1t (by simp)).trans Hv.out
    rintro e w1 ⟨rfl, he, hk⟩
    refine ⟨rfl, ⟨he, ?_, ?_⟩, ?_⟩
    · exact (K0 _).trans hk (by simp) (fun y hy hl => by simp at hy; omega)
    · rw [hk.block _ (by first | omega | (simp only [World.size_alloc, World.size_setCell, World.size_drew]; omega) | (simp; omega)) (by first | (simp only [List.mem_singleton, List.mem_nil_iff, not_false_eq_true]; omega) | (simp; omega) | simp), heap_lt, heap_lt, heap_lt, heap_lt, heap_at] <;> (first | rfl | omega | (simp only [World.size_alloc, World.size_setCell, World.size_drew]; omega) | (simp only [World.size_alloc, World.size_setCell, World.size_drew]) | (simp; omega))
    · rw [hk.block _ (by first | omega | (simp only [World.size_alloc, World.size_setCell, World.size_drew]; omega) | (simp; omega)) (by first | (simp only [List.mem_singleton, List.mem_nil_iff, not_false_eq_true]; omega) | (simp; omega) | simp)]
      exact heap_at (by simp)
  rintro e W ⟨w1, rfl, ⟨he, hk, hx⟩, hW⟩
  have q1 := hk.size
  have Kx : Kept [] w W := by rw [hW]; exact hk.setCell (.inl (by simp; omega)) _
  have he2 : W.heap[w.heap.size + 1 + 1 + 1 + 1]? = some (.cells #[errV a0] 84 (0, 0)) := by rw [hW]; exact (heap_set (by simp)).trans he
  have hx2 : W.heap[w.heap.size + 1]? = some (.cells #[.int .i64 0, .int .i64 0, .int .i64 0, .float .f64 0, .string ⟨#[]⟩, .slice none 0 0, .slice none 0 0] 26 (0, 0)) := by rw [hW]; exact (heap_set (by simp)).trans hx
  have q2 := Kx.size
  clear he hk hx q1 K0 hW
  obtain ⟨⟨c0, c1, c2, c3, c4, c5, c6⟩, f0, f1, f2, f3, f4, f5, f6⟩ := seven hx2
  have ce := one_cell he2
  have hoff := cell_set_off
  unfold errV at ce
  have HKx := Lib.hid Kx; have Hx2 := Lib.hid hx2
  clear he2 hx2 Kx hmf
  go_wp2_with fail
  have hr := block7 Hx2.out (.int .i64 0) (.int .i64 0) (.int .i64 0) (.float .f64 0) (.string ⟨#[]⟩) (.slice none 0 0) (.slice none 0 0)
  have hkk := kept7 HKx.out (b := w.heap.size + 1) (.inl (by simp)) (.int .i64 0) (.int .i64 0) (.int .i64 0) (.float .f64 0) (.string ⟨#[]⟩) (.slice none 0 0) (.slice none 0 0)
  clear c0 c1 c2 c3 c4 c5 c6 f0 f1 f2 f3 f4 f5 f6 hoff
  obtain ⟨⟨c0, c1, c2, c3, c4, c5, c6⟩, _⟩ := seven hr
  refine bodyPost_ret (v := .tuple #[zeroAgg, .string ⟨#[]⟩, .bool false]) (by simp [results, Tryz.results38, go_sem, c0, c1, c2, c3, c4, c5, c6]) rfl ⟨rfl, hkk⟩
set_option maxRecDepth 100000 in
set_option maxHeartbeats 2000000 in
theorem deep_ok (j : Nat) (most : Int) (w : World) (hL : (j : Int) ≤ most) (h1000 : most ≤ 1000) (hm : 0 < most) :
    Calls Tryz.prog 19 #[.string (Br (j + 1) (j + 1)), .int .i64 0, .int .i64 most] w fun e w' =>
      ∃ sa sn sc s, e = .returned (.tuple #[arrAgg sa sn sc, .string s, .bool true]) ∧ Kept [] w w' := by
  have hmf : ∀ (fn : Fn) (first cap : Array Value) (w : World), (Instr.makeFunc fn first cap).run Tryz.prog w = .ok (.func fn first cap) w := fun _ _ _ _ => rfl
  have HL := Lib.hid hL; clear hL
  go_enter Tryz.func19, Tryz.ntmps19
  go_wp2_with fail
  refine (read_ok j most w.heap.size (w.heap.size + 1) _ HL.out h1000 hm ?_ ?_).mono ?_
  · refine one_cell (t := 3) ?_
    rw [heap_lt, heap_lt, heap_at] <;> (first | rfl | omega | (simp only [World.size_alloc, World.size_setCell, World.size_drew]; omega) | (simp only [World.size_alloc, World.size_setCell, World.size_drew]) | (simp; omega))
  · refine one_cell (t := 3) ?_
    rw [heap_lt, heap_at] <;> (first | rfl | omega | (simp only [World.size_alloc, World.size_setCell, World.size_drew]; omega) | (simp only [World.size_alloc, World.size_setCell, World.size_drew]) | (simp; omega))
  rintro e w1 ⟨sa, sn, sc, s, rfl, hk⟩
  have hx : w1.heap[w.heap.size + 1 + 1]? = some (.cells #[.int .i64 0, .int .i64 0, .int .i64 0, .float .f64 0, .string ⟨#[]⟩, .slice none 0 0, .slice none 0 0] 26 (0, 0)) := by
    rw [hk.block _ (by first | omega | (simp only [World.size_alloc, World.size_setCell, World.size_drew]; omega) | (simp; omega)) (by first | (simp only [List.mem_singleton, List.mem_nil_iff, not_false_eq_true]; omega) | (simp; omega) | simp), heap_at] <;> (first | rfl | omega | (simp only [World.size_alloc, World.size_setCell, World.size_drew]; omega) | (simp only [World.size_alloc, World.size_setCell, World.size_drew]) | (simp; omega))
  have K1 : Kept [] w w1 := ((((Kept.refl [] w).alloc _).alloc _).alloc _).trans hk (by simp) (by simp)
  obtain ⟨⟨c0, c1, c2, c3, c4, c5, c6⟩, f0, f1, f2, f3, f4, f5, f6⟩ := seven hx
  have hoff := cell_set_off
  have HK := Lib.hid K1; have HX := Lib.hid hx
  clear hk hx K1 hmf
  go_wp2_with fail
  have hr := block7 HX.out (.int .i64 7) (.int .i64 0) (.int .i64 0) (.float .f64 0) (.string ⟨#[]⟩) (.slice none 0 0) (.slice sa sn sc)
  have hkk := kept7 HK.out (b := w.heap.size + 1 + 1) (.inl (by omega)) (.int .i64 7) (.int .i64 0) (.int .i64 0) (.float .f64 0) (.string ⟨#[]⟩) (.slice none 0 0) (.slice sa sn sc)
  clear c0 c1 c2 c3 c4 c5 c6 f0 f1 f2 f3 f4 f5 f6 hoff
  obtain ⟨⟨c0, c1, c2, c3, c4, c5, c6⟩, _⟩ := seven hr
  refine bodyPost_ret (v := .tuple #[arrAgg sa sn sc, .string s, .bool true]) (by simp [results, Tryz.results19, go_sem, c0, c1, c2, c3, c4, c5, c6]) rfl ⟨sa, sn, sc, s, rfl, hkk⟩
set_option maxRecDepth 100000 in
set_option maxHeartbeats 2000000 in
theorem deep_no (j : Nat) (most : Int) (a0 : Addr) (w : World) (hL : most < (j : Int)) (h1000 : most ≤ 1000) (hm : 0 < most) (hv : w.cell? ⟨1, 0, none⟩ = some (errV a0)) :
    Calls Tryz.prog 19 #[.string (Br (j + 1) (j + 1)), .int .i64 0, .int .i64 most] w fun e w' =>
      e = .returned (.tuple #[zeroAgg, .string ⟨#[]⟩, .bool false]) ∧ Kept [] w w' := by
  have hmf : ∀ (fn : Fn) (first cap : Array Value) (w : World), (Instr.makeFunc fn first cap).run Tryz.prog w = .ok (.func fn first cap) w := fun _ _ _ _ => rfl
  have h1t := lt_of_cell hv
  have HL := Lib.hid hL; have Hv := Lib.hid hv; clear hL hv
  go_enter Tryz.func19, Tryz.ntmps19
  go_wp2_with fail
  refine (read_no j most w.heap.size (w.heap.size + 1) a0 _ HL.out h1000 hm ?_ ?_ ?_).mono ?_
  · refine one_cell (t := 3) ?_
    rw [heap_lt, heap_lt, heap_at] <;> (first | rfl | omega | (simp only [World.size_alloc, World.size_setCell, World.size_drew]; omega) | (simp only [World.size_alloc, World.size_setCell, World.size_drew]) | (simp; omega))
  · refine one_cell (t := 3) ?_
    rw [heap_lt, heap_at] <;> (first | rfl | omega | (simp only [World.size_alloc, World.size_setCell, World.size_drew]; omega) | (simp only [World.size_alloc, World.size_setCell, World.size_drew]) | (simp; omega))
  · exact (((((Kept.refl [] w).alloc _).alloc _).alloc _).cell h1t (by simp)).trans Hv.out
  rintro e w1 ⟨rfl, hk⟩
  have hx : w1.heap[w.heap.size + 1 + 1]? = some (.cells #[.int .i64 0, .int .i64 0, .int .i64 0, .float .f64 0, .string ⟨#[]⟩, .slice none 0 0, .slice none 0 0] 26 (0, 0)) := by
    rw [hk.block _ (by first | omega | (simp only [World.size_alloc, World.size_setCell, World.size_drew]; omega) | (simp; omega)) (by first | (simp only [List.mem_singleton, List.mem_nil_iff, not_false_eq_true]; omega) | (simp; omega) | simp), heap_at] <;> (first | rfl | omega | (simp only [World.size_alloc, World.size_setCell, World.size_drew]; omega) | (simp only [World.size_alloc, World.size_setCell, World.size_drew]) | (simp; omega))
  have K1 : Kept [] w w1 := ((((Kept.refl [] w).alloc _).alloc _).alloc _).trans hk (by simp) (by simp)
  obtain ⟨⟨c0, c1, c2, c3, c4, c5, c6⟩, f0, f1, f2, f3, f4, f5, f6⟩ := seven hx
  have hoff := cell_set_off
  have HK := Lib.hid K1; have HX := Lib.hid hx
  clear hk hx K1 hmf
  go_wp2_with fail
  have hr := block7 HX.out (.int .i64 0) (.int .i64 0) (.int .i64 0) (.float .f64 0) (.string ⟨#[]⟩) (.slice none 0 0) (.slice none 0 0)
  have hkk := kept7 HK.out (b := w.heap.size + 1 + 1) (.inl (by omega)) (.int .i64 0) (.int .i64 0) (.int .i64 0) (.float .f64 0) (.string ⟨#[]⟩) (.slice none 0 0) (.slice none 0 0)
  clear c0 c1 c2 c3 c4 c5 c6 f0 f1 f2 f3 f4 f5 f6 hoff
  obtain ⟨⟨c0, c1, c2, c3, c4, c5, c6⟩, _⟩ := seven hr
  refine bodyPost_ret (v := .tuple #[zeroAgg, .string ⟨#[]⟩, .bool false]) (by simp [results, Tryz.results19, go_sem, c0, c1, c2, c3, c4, c5, c6]) rfl ⟨rfl, hkk⟩
end Go.Proofs.YtfkecmlmnhbmoaaGreatDoor
