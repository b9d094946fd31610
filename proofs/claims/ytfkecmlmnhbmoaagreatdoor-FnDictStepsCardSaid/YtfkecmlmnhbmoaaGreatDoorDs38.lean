import Derived.Test.YtfkecmlmnhbmoaaGreatDoorDs37
namespace Go.Proofs.YtfkecmlmnhbmoaaGreatDoor
open Go.RowKit Go.Maps
set_option maxRecDepth 100000 in
set_option maxHeartbeats 8000000 in
theorem do_look1_3 (L : List (ByteArray × Nd)) (op : Int) (key : ByteArray) (y : Nd) (i g : Int) (r : Nat) (s : ByteArray) (N : Bd) (ka : Option Addr) (kc : Nat) (a : Option Addr) (cap : Nat) (kb : Option Addr) (kd : Nat) (ab : Option Addr) (capb : Nat) (w : World) (hd : DiOk (Di.of L)) (hz : Z4 i g r s) (hn : Node (LtB N) w 8 i g r s (Di.of L).keys (Di.of L).kids ka kc a cap)
    (hy : Node (LtB N) w y.k y.i y.g y.r y.s y.keys y.kids kb kd ab capb) (hN : N.n ≤ w.heap.size) (hky : Simp key) (hyo : NdOk y) (hop : I64 op) (_hlb : L.length ≤ 1000000000000) (hop1 : op = 3) (hin : key ∈ (Di.of L).keys) :
    Calls Tryz.prog 17 #[.agg #[.int .i64 8, .int .i64 i, .int .i64 g, .float .f64 r, .string s, .slice ka (Di.of L).keys.length kc, .slice a (Di.of L).kids.len cap], .agg #[.int .i64 op, .string key, .int .i64 y.k, .int .i64 y.i, .int .i64 y.g, .float .f64 y.r, .string y.s, .slice kb y.keys.length kd, .slice ab y.kids.len capb]] w (DoE N (Di.of L) op key y w) := by
  have HOP := Lib.hid hop1; clear hop1
  obtain ⟨⟨⟨k1, k2⟩, ⟨i1, i2⟩, ⟨g1, g2⟩, r1, s1⟩, hkeys, hkids⟩ := hn
  have hkl : (Di.of L).keys.length = L.length := by simp [Di.of]
  have hil : (Di.of L).kids.len = L.length := by simp [Di.of, F.of_len]
  obtain ⟨w0, hw0⟩ : ∃ w0, w0 = (((w.alloc (.cells #[.int .i64 8, .int .i64 i, .int .i64 g, .float .f64 r, .string s, .slice ka (Di.of L).keys.length kc, .slice a (Di.of L).kids.len cap] 26)).alloc (.cells #[.int .i64 op, .string key, .int .i64 y.k, .int .i64 y.i, .int .i64 y.g, .float .f64 y.r, .string y.s, .slice kb y.keys.length kd, .slice ab y.kids.len capb] 45)).alloc (.cells #[.int .i64 0, .int .i64 0, .int .i64 0, .float .f64 0, .string ⟨#[]⟩, .slice none 0 0, .slice none 0 0] 26)).alloc (.cells #[.int .i64 0, .int .i64 0, .int .i64 0, .float .f64 0, .string ⟨#[]⟩, .slice none 0 0, .slice none 0 0] 26) := ⟨_, rfl⟩
  have hK0 : Kept [] w w0 := by rw [hw0]; exact ((((Kept.refl [] w).alloc _).alloc _).alloc _).alloc _
  have hX : w0.heap[w.heap.size]? = some (.cells #[.int .i64 8, .int .i64 i, .int .i64 g, .float .f64 r, .string s, .slice ka (Di.of L).keys.length kc, .slice a (Di.of L).kids.len cap] 26 (0, 0)) := by rw [hw0, heap_lt (by simp; omega), heap_lt (by simp; omega), heap_lt (by simp)]; exact heap_at rfl
  have hT : w0.heap[w.heap.size + 1]? = some (.cells #[.int .i64 op, .string key, .int .i64 y.k, .int .i64 y.i, .int .i64 y.g, .float .f64 y.r, .string y.s, .slice kb y.keys.length kd, .slice ab y.kids.len capb] 45 (0, 0)) := by rw [hw0, heap_lt (by simp), heap_lt (by simp)]; exact heap_at (by simp)
  have hA : w0.heap[w.heap.size + 1 + 1]? = some (.cells #[.int .i64 0, .int .i64 0, .int .i64 0, .float .f64 0, .string ⟨#[]⟩, .slice none 0 0, .slice none 0 0] 26 (0, 0)) := by rw [hw0, heap_lt (by simp)]; exact heap_at (by simp)
  have hB : w0.heap[w.heap.size + 1 + 1 + 1]? = some (.cells #[.int .i64 0, .int .i64 0, .int .i64 0, .float .f64 0, .string ⟨#[]⟩, .slice none 0 0, .slice none 0 0] 26 (0, 0)) := by rw [hw0]; exact heap_at (by simp)
  have hkeys0 := hkeys.kept hK0 (ltkB hN (by simp))
  have hkids0 := hkids.kept hK0 (ltkB hN (by simp))
  have hfind := dictfind key 8 i g r s (Di.of L).keys (Di.of L).kids N ka kc a cap w0 ⟨⟨⟨k1, k2⟩, ⟨i1, i2⟩, ⟨g1, g2⟩, r1, s1⟩, hkeys0, hkids0⟩ (Nat.le_trans hN hK0.size)
  have hfld : Fld 8 i g r s := ⟨⟨k1, k2⟩, ⟨i1, i2⟩, ⟨g1, g2⟩, r1, s1⟩
  obtain ⟨⟨c0, c1, c2, c3, c4, c5, c6⟩, _⟩ := seven hX
  obtain ⟨t0, t1, t2, t3, t4, t5, t6, t7, t8⟩ := nine hT
  have HX := Lib.hid hX; have HT := Lib.hid hT; have HA := Lib.hid hA; have HB := Lib.hid hB; have HKE := Lib.hid hkeys; have HKI := Lib.hid hkids; have HKI0 := Lib.hid hkids0; have HY := Lib.hid hy; have HF := Lib.hid hfind; have HFL := Lib.hid hfld; have HD := Lib.hid hd; have HKY := Lib.hid hky; have HYO := Lib.hid hyo; have HZ4 := Lib.hid hz; have HKL := Lib.hid hkl; have HIL := Lib.hid hil
  clear hX hT hA hB hkeys hkids hkeys0 hkids0 hy hfind hfld hd hky hyo hz hkl hil
  go_enter Tryz.func17, Tryz.ntmps17
  go_upto_region 1 with fail
  rw [← hw0]
  clear hw0
  go_wp2_with fail
  refine HF.out.mono ?_
  rintro e w1 ⟨hK1, p, rfl, hp⟩
  have hK2 : Kept [] w w1 := Kept.trans hK0 hK1 (by simp) (by simp)
  have hXr := (hK1.block w.heap.size (lt_of_block HX.out) (by simp)).trans HX.out
  have hTr := (hK1.block (w.heap.size + 1) (lt_of_block HT.out) (by simp)).trans HT.out
  have hAr := (hK1.block (w.heap.size + 1 + 1) (lt_of_block HA.out) (by simp)).trans HA.out
  have hBr := (hK1.block (w.heap.size + 1 + 1 + 1) (lt_of_block HB.out) (by simp)).trans HB.out
  clear c0 c1 c2 c3 c4 c5 c6 t0 t1 t2 t3 t4 t5 t6 t7 t8
  rcases hp with ⟨rfl, hno⟩ | ⟨j, rfl, hat, hmin⟩
  case' inl => exact absurd hin hno
  obtain ⟨hjl, hje⟩ := List.getElem?_eq_some_iff.1 hat
  rw [HKL.out] at hjl
  have hkey : (L[j]).1 = key := by rw [← hje]; simp [Di.of]
  obtain ⟨b', o', k', i', g', r', s', keys', kids', ka', kc', a', cap', rfl, hbN', hdr, hcs, hnode⟩ := HKI.out.at (j := j) (by rw [HIL.out]; exact hjl)
  have hpj := Di.of_kid hjl hdr
  have hvat : (Di.of L).At key ⟨k', i', g', r', s', keys', kids'⟩ := Di.of_at.2 (by rw [← hkey, ← hpj]; exact List.getElem_mem hjl)
  rw [Nat.mul_comm 7 j] at hcs
  have hbl : b' < N.n := hbN'.1
  have hcc : ∀ p, w1.cell? ⟨b', p, none⟩ = w.cell? ⟨b', p, none⟩ := fun p => hK2.cell (by omega) (by simp)
  obtain ⟨e0, e1, e2, e3, e4, e5, e6⟩ := hcs
  rw [← hcc] at e0 e1 e2 e3 e4 e5 e6
  have hjl2 : (j : Int) < ((Di.of L).kids.len : Int) := by rw [HIL.out]; omega
  have hj0 : (0 : Int) ≤ (j : Int) := Int.natCast_nonneg _
  have hjn : ((j : Int) < 0) = False := by simp
  have HXq := Lib.hid hXr; have HTq := Lib.hid hTr; have HAq := Lib.hid hAr; have HBq := Lib.hid hBr; have HVA := Lib.hid hvat; have HNV := Lib.hid hnode
  obtain ⟨⟨c0, c1, c2, c3, c4, c5, c6⟩, _⟩ := seven hXr
  obtain ⟨t0, t1, t2, t3, t4, t5, t6, t7, t8⟩ := nine hTr
  obtain ⟨⟨a0, a1, a2, a3, a4, a5, a6⟩, p0, p1, p2, p3, p4, p5, p6⟩ := seven hAr
  obtain ⟨⟨b0, b1, b2, b3, b4, b5, b6⟩, q0, q1, q2, q3, q4, q5, q6⟩ := seven hBr
  clear hXr hTr hAr hBr hvat hnode hpj hkey hje hat hmin hin hdr hcc
  go_upto_region 4 with fail
  obtain ⟨W, hW⟩ : ∃ W, W = ((((((w1.setCell ⟨w.heap.size + 1 + 1 + 1, 0, none⟩ (.int .i64 k')).setCell ⟨w.heap.size + 1 + 1 + 1, 1, none⟩ (.int .i64 i')).setCell ⟨w.heap.size + 1 + 1 + 1, 2, none⟩ (.int .i64 g')).setCell ⟨w.heap.size + 1 + 1 + 1, 3, none⟩ (.float .f64 r')).setCell ⟨w.heap.size + 1 + 1 + 1, 4, none⟩ (.string s')).setCell ⟨w.heap.size + 1 + 1 + 1, 5, none⟩ (.slice ka' keys'.length kc')).setCell ⟨w.heap.size + 1 + 1 + 1, 6, none⟩ (.slice a' kids'.len cap') := ⟨_, rfl⟩
  have hbz1 := lt_of_block HBq.out
  have hk1 : Kept [w.heap.size + 1 + 1 + 1] w1 W := by rw [hW]; exact kept7 (Kept.refl _ _) (.inr (by simp)) _ _ _ _ _ _ _
  have hKW : Kept [] w W := by rw [hW]; exact kept7 hK2 (.inl (by omega)) _ _ _ _ _ _ _
  have hXr := (hk1.block w.heap.size (lt_of_block HXq.out) (by simp only [List.mem_singleton]; omega)).trans HXq.out
  have hTr := (hk1.block (w.heap.size + 1) (lt_of_block HTq.out) (by simp only [List.mem_singleton]; omega)).trans HTq.out
  have hAr := (hk1.block (w.heap.size + 1 + 1) (lt_of_block HAq.out) (by simp only [List.mem_singleton]; omega)).trans HAq.out
  have hBr : W.heap[w.heap.size + 1 + 1 + 1]? = some (.cells #[.int .i64 k', .int .i64 i', .int .i64 g', .float .f64 r', .string s', .slice ka' keys'.length kc', .slice a' kids'.len cap'] 26 (0, 0)) := by rw [hW]; exact set7 HBq.out _ _ _ _ _ _ _
  rw [← hW]
  clear hW c0 c1 c2 c3 c4 c5 c6 t0 t1 t2 t3 t4 t5 t6 t7 t8 a0 a1 a2 a3 a4 a5 a6 p0 p1 p2 p3 p4 p5 p6 b0 b1 b2 b3 b4 b5 b6 q0 q1 q2 q3 q4 q5 q6 e0 e1 e2 e3 e4 e5 e6
  have HXr := Lib.hid hXr; have HTr := Lib.hid hTr; have HAr := Lib.hid hAr; have HBr := Lib.hid hBr
  obtain ⟨⟨c0, c1, c2, c3, c4, c5, c6⟩, _⟩ := seven hXr
  obtain ⟨t0, t1, t2, t3, t4, t5, t6, t7, t8⟩ := nine hTr
  obtain ⟨⟨a0, a1, a2, a3, a4, a5, a6⟩, p0, p1, p2, p3, p4, p5, p6⟩ := seven hAr
  obtain ⟨⟨b0, b1, b2, b3, b4, b5, b6⟩, q0, q1, q2, q3, q4, q5, q6⟩ := seven hBr
  clear hXr hTr hAr hBr
  have hbz := lt_of_block HBr.out
  obtain ⟨o1, o2⟩ := hop
  have hop1 := HOP.out; clear HOP
  subst hop1
  go_wp2_with fail
  go_region
  all_goals go_wp2_with fail
  all_goals (
    have hoff1 : ∀ n : Nat, (⟨w.heap.size + 1 + 1, 0, none⟩ : Addr).add n = ⟨w.heap.size + 1 + 1, n, none⟩ := fun n => addr0 _ _
    have hoff2 : ∀ n : Nat, (⟨w.heap.size + 1 + 1 + 1, 0, none⟩ : Addr).add n = ⟨w.heap.size + 1 + 1 + 1, n, none⟩ := fun n => addr0 _ _
    refine bodyPost_ret (v := .tuple #[.agg #[.int .i64 8, .int .i64 i, .int .i64 g, .float .f64 r, .string s, .slice ka (Di.of L).keys.length kc, .slice (some ⟨b', o', none⟩) (Di.of L).kids.len cap], .bool true, (.agg #[.int .i64 k',.int .i64 i',.int .i64 g',.float .f64 r',.string s',.slice ka' keys'.length kc',.slice a' kids'.len cap']), .bool true]) (by simp [results, Tryz.results17, go_sem, hoff1, hoff2, a0, a1, a2, a3, a4, a5, a6, b0, b1, b2, b3, b4, b5, b6]) rfl ?_
    have hKe := (kept7 (b := w.heap.size + 1 + 1 + 1) (kept7 (b := w.heap.size + 1 + 1) hKW (.inl (by omega)) (.int .i64 8) (.int .i64 i) (.int .i64 g) (.float .f64 r) (.string s) (.slice ka (Di.of L).keys.length kc) (.slice (some ⟨b', o', none⟩) (Di.of L).kids.len cap)) (.inl (by omega)) (.int .i64 k') (.int .i64 i') (.int .i64 g') (.float .f64 r') (.string s') (.slice ka' keys'.length kc') (.slice a' kids'.len cap')).drew
    exact ⟨hKe, i, g, r, s, Di.of L, ka, kc, (some ⟨b', o', none⟩), cap, true, ⟨k', i', g', r', s', keys', kids'⟩, ka', kc', a', cap', true, rfl, fun _ => ⟨HZ4.out, lt_kept hKe hN ⟨HFL.out, HKE.out, HKI.out⟩, lt_kept hKe hN HNV.out, .look (by simp) HVA.out⟩⟩)
set_option maxRecDepth 100000 in
set_option maxHeartbeats 8000000 in
theorem do_look1_4 (L : List (ByteArray × Nd)) (op : Int) (key : ByteArray) (y : Nd) (i g : Int) (r : Nat) (s : ByteArray) (N : Bd) (ka : Option Addr) (kc : Nat) (a : Option Addr) (cap : Nat) (kb : Option Addr) (kd : Nat) (ab : Option Addr) (capb : Nat) (w : World) (hd : DiOk (Di.of L)) (hz : Z4 i g r s) (hn : Node (LtB N) w 8 i g r s (Di.of L).keys (Di.of L).kids ka kc a cap)
    (hy : Node (LtB N) w y.k y.i y.g y.r y.s y.keys y.kids kb kd ab capb) (hN : N.n ≤ w.heap.size) (hky : Simp key) (hyo : NdOk y) (hop : I64 op) (_hlb : L.length ≤ 1000000000000) (hop1 : op = 4) (hin : key ∈ (Di.of L).keys) :
    Calls Tryz.prog 17 #[.agg #[.int .i64 8, .int .i64 i, .int .i64 g, .float .f64 r, .string s, .slice ka (Di.of L).keys.length kc, .slice a (Di.of L).kids.len cap], .agg #[.int .i64 op, .string key, .int .i64 y.k, .int .i64 y.i, .int .i64 y.g, .float .f64 y.r, .string y.s, .slice kb y.keys.length kd, .slice ab y.kids.len capb]] w (DoE N (Di.of L) op key y w) := by
  have HOP := Lib.hid hop1; clear hop1
  obtain ⟨⟨⟨k1, k2⟩, ⟨i1, i2⟩, ⟨g1, g2⟩, r1, s1⟩, hkeys, hkids⟩ := hn
  have hkl : (Di.of L).keys.length = L.length := by simp [Di.of]
  have hil : (Di.of L).kids.len = L.length := by simp [Di.of, F.of_len]
  obtain ⟨w0, hw0⟩ : ∃ w0, w0 = (((w.alloc (.cells #[.int .i64 8, .int .i64 i, .int .i64 g, .float .f64 r, .string s, .slice ka (Di.of L).keys.length kc, .slice a (Di.of L).kids.len cap] 26)).alloc (.cells #[.int .i64 op, .string key, .int .i64 y.k, .int .i64 y.i, .int .i64 y.g, .float .f64 y.r, .string y.s, .slice kb y.keys.length kd, .slice ab y.kids.len capb] 45)).alloc (.cells #[.int .i64 0, .int .i64 0, .int .i64 0, .float .f64 0, .string ⟨#[]⟩, .slice none 0 0, .slice none 0 0] 26)).alloc (.cells #[.int .i64 0, .int .i64 0, .int .i64 0, .float .f64 0, .string ⟨#[]⟩, .slice none 0 0, .slice none 0 0] 26) := ⟨_, rfl⟩
  have hK0 : Kept [] w w0 := by rw [hw0]; exact ((((Kept.refl [] w).alloc _).alloc _).alloc _).alloc _
  have hX : w0.heap[w.heap.size]? = some (.cells #[.int .i64 8, .int .i64 i, .int .i64 g, .float .f64 r, .string s, .slice ka (Di.of L).keys.length kc, .slice a (Di.of L).kids.len cap] 26 (0, 0)) := by rw [hw0, heap_lt (by simp; omega), heap_lt (by simp; omega), heap_lt (by simp)]; exact heap_at rfl
  have hT : w0.heap[w.heap.size + 1]? = some (.cells #[.int .i64 op, .string key, .int .i64 y.k, .int .i64 y.i, .int .i64 y.g, .float .f64 y.r, .string y.s, .slice kb y.keys.length kd, .slice ab y.kids.len capb] 45 (0, 0)) := by rw [hw0, heap_lt (by simp), heap_lt (by simp)]; exact heap_at (by simp)
  have hA : w0.heap[w.heap.size + 1 + 1]? = some (.cells #[.int .i64 0, .int .i64 0, .int .i64 0, .float .f64 0, .string ⟨#[]⟩, .slice none 0 0, .slice none 0 0] 26 (0, 0)) := by rw [hw0, heap_lt (by simp)]; exact heap_at (by simp)
  have hB : w0.heap[w.heap.size + 1 + 1 + 1]? = some (.cells #[.int .i64 0, .int .i64 0, .int .i64 0, .float .f64 0, .string ⟨#[]⟩, .slice none 0 0, .slice none 0 0] 26 (0, 0)) := by rw [hw0]; exact heap_at (by simp)
  have hkeys0 := hkeys.kept hK0 (ltkB hN (by simp))
  have hkids0 := hkids.kept hK0 (ltkB hN (by simp))
  have hfind := dictfind key 8 i g r s (Di.of L).keys (Di.of L).kids N ka kc a cap w0 ⟨⟨⟨k1, k2⟩, ⟨i1, i2⟩, ⟨g1, g2⟩, r1, s1⟩, hkeys0, hkids0⟩ (Nat.le_trans hN hK0.size)
  have hfld : Fld 8 i g r s := ⟨⟨k1, k2⟩, ⟨i1, i2⟩, ⟨g1, g2⟩, r1, s1⟩
  obtain ⟨⟨c0, c1, c2, c3, c4, c5, c6⟩, _⟩ := seven hX
  obtain ⟨t0, t1, t2, t3, t4, t5, t6, t7, t8⟩ := nine hT
  have HX := Lib.hid hX; have HT := Lib.hid hT; have HA := Lib.hid hA; have HB := Lib.hid hB; have HKE := Lib.hid hkeys; have HKI := Lib.hid hkids; have HKI0 := Lib.hid hkids0; have HY := Lib.hid hy; have HF := Lib.hid hfind; have HFL := Lib.hid hfld; have HD := Lib.hid hd; have HKY := Lib.hid hky; have HYO := Lib.hid hyo; have HZ4 := Lib.hid hz; have HKL := Lib.hid hkl; have HIL := Lib.hid hil
  clear hX hT hA hB hkeys hkids hkeys0 hkids0 hy hfind hfld hd hky hyo hz hkl hil
  go_enter Tryz.func17, Tryz.ntmps17
  go_upto_region 1 with fail
  rw [← hw0]
  clear hw0
  go_wp2_with fail
  refine HF.out.mono ?_
  rintro e w1 ⟨hK1, p, rfl, hp⟩
  have hK2 : Kept [] w w1 := Kept.trans hK0 hK1 (by simp) (by simp)
  have hXr := (hK1.block w.heap.size (lt_of_block HX.out) (by simp)).trans HX.out
  have hTr := (hK1.block (w.heap.size + 1) (lt_of_block HT.out) (by simp)).trans HT.out
  have hAr := (hK1.block (w.heap.size + 1 + 1) (lt_of_block HA.out) (by simp)).trans HA.out
  have hBr := (hK1.block (w.heap.size + 1 + 1 + 1) (lt_of_block HB.out) (by simp)).trans HB.out
  clear c0 c1 c2 c3 c4 c5 c6 t0 t1 t2 t3 t4 t5 t6 t7 t8
  rcases hp with ⟨rfl, hno⟩ | ⟨j, rfl, hat, hmin⟩
  case' inl => exact absurd hin hno
  obtain ⟨hjl, hje⟩ := List.getElem?_eq_some_iff.1 hat
  rw [HKL.out] at hjl
  have hkey : (L[j]).1 = key := by rw [← hje]; simp [Di.of]
  obtain ⟨b', o', k', i', g', r', s', keys', kids', ka', kc', a', cap', rfl, hbN', hdr, hcs, hnode⟩ := HKI.out.at (j := j) (by rw [HIL.out]; exact hjl)
  have hpj := Di.of_kid hjl hdr
  have hvat : (Di.of L).At key ⟨k', i', g', r', s', keys', kids'⟩ := Di.of_at.2 (by rw [← hkey, ← hpj]; exact List.getElem_mem hjl)
  rw [Nat.mul_comm 7 j] at hcs
  have hbl : b' < N.n := hbN'.1
  have hcc : ∀ p, w1.cell? ⟨b', p, none⟩ = w.cell? ⟨b', p, none⟩ := fun p => hK2.cell (by omega) (by simp)
  obtain ⟨e0, e1, e2, e3, e4, e5, e6⟩ := hcs
  rw [← hcc] at e0 e1 e2 e3 e4 e5 e6
  have hjl2 : (j : Int) < ((Di.of L).kids.len : Int) := by rw [HIL.out]; omega
  have hj0 : (0 : Int) ≤ (j : Int) := Int.natCast_nonneg _
  have hjn : ((j : Int) < 0) = False := by simp
  have HXq := Lib.hid hXr; have HTq := Lib.hid hTr; have HAq := Lib.hid hAr; have HBq := Lib.hid hBr; have HVA := Lib.hid hvat; have HNV := Lib.hid hnode
  obtain ⟨⟨c0, c1, c2, c3, c4, c5, c6⟩, _⟩ := seven hXr
  obtain ⟨t0, t1, t2, t3, t4, t5, t6, t7, t8⟩ := nine hTr
  obtain ⟨⟨a0, a1, a2, a3, a4, a5, a6⟩, p0, p1, p2, p3, p4, p5, p6⟩ := seven hAr
  obtain ⟨⟨b0, b1, b2, b3, b4, b5, b6⟩, q0, q1, q2, q3, q4, q5, q6⟩ := seven hBr
  clear hXr hTr hAr hBr hvat hnode hpj hkey hje hat hmin hin hdr hcc
  go_upto_region 4 with fail
  obtain ⟨W, hW⟩ : ∃ W, W = ((((((w1.setCell ⟨w.heap.size + 1 + 1 + 1, 0, none⟩ (.int .i64 k')).setCell ⟨w.heap.size + 1 + 1 + 1, 1, none⟩ (.int .i64 i')).setCell ⟨w.heap.size + 1 + 1 + 1, 2, none⟩ (.int .i64 g')).setCell ⟨w.heap.size + 1 + 1 + 1, 3, none⟩ (.float .f64 r')).setCell ⟨w.heap.size + 1 + 1 + 1, 4, none⟩ (.string s')).setCell ⟨w.heap.size + 1 + 1 + 1, 5, none⟩ (.slice ka' keys'.length kc')).setCell ⟨w.heap.size + 1 + 1 + 1, 6, none⟩ (.slice a' kids'.len cap') := ⟨_, rfl⟩
  have hbz1 := lt_of_block HBq.out
  have hk1 : Kept [w.heap.size + 1 + 1 + 1] w1 W := by rw [hW]; exact kept7 (Kept.refl _ _) (.inr (by simp)) _ _ _ _ _ _ _
  have hKW : Kept [] w W := by rw [hW]; exact kept7 hK2 (.inl (by omega)) _ _ _ _ _ _ _
  have hXr := (hk1.block w.heap.size (lt_of_block HXq.out) (by simp only [List.mem_singleton]; omega)).trans HXq.out
  have hTr := (hk1.block (w.heap.size + 1) (lt_of_block HTq.out) (by simp only [List.mem_singleton]; omega)).trans HTq.out
  have hAr := (hk1.block (w.heap.size + 1 + 1) (lt_of_block HAq.out) (by simp only [List.mem_singleton]; omega)).trans HAq.out
  have hBr : W.heap[w.heap.size + 1 + 1 + 1]? = some (.cells #[.int .i64 k', .int .i64 i', .int .i64 g', .float .f64 r', .string s', .slice ka' keys'.length kc', .slice a' kids'.len cap'] 26 (0, 0)) := by rw [hW]; exact set7 HBq.out _ _ _ _ _ _ _
  rw [← hW]
  clear hW c0 c1 c2 c3 c4 c5 c6 t0 t1 t2 t3 t4 t5 t6 t7 t8 a0 a1 a2 a3 a4 a5 a6 p0 p1 p2 p3 p4 p5 p6 b0 b1 b2 b3 b4 b5 b6 q0 q1 q2 q3 q4 q5 q6 e0 e1 e2 e3 e4 e5 e6
  have HXr := Lib.hid hXr; have HTr := Lib.hid hTr; have HAr := Lib.hid hAr; have HBr := Lib.hid hBr
  obtain ⟨⟨c0, c1, c2, c3, c4, c5, c6⟩, _⟩ := seven hXr
  obtain ⟨t0, t1, t2, t3, t4, t5, t6, t7, t8⟩ := nine hTr
  obtain ⟨⟨a0, a1, a2, a3, a4, a5, a6⟩, p0, p1, p2, p3, p4, p5, p6⟩ := seven hAr
  obtain ⟨⟨b0, b1, b2, b3, b4, b5, b6⟩, q0, q1, q2, q3, q4, q5, q6⟩ := seven hBr
  clear hXr hTr hAr hBr
  have hbz := lt_of_block HBr.out
  obtain ⟨o1, o2⟩ := hop
  have hop1 := HOP.out; clear HOP
  subst hop1
  go_wp2_with fail
  go_region
  all_goals go_wp2_with fail
  all_goals (
    have hoff1 : ∀ n : Nat, (⟨w.heap.size + 1 + 1, 0, none⟩ : Addr).add n = ⟨w.heap.size + 1 + 1, n, none⟩ := fun n => addr0 _ _
    have hoff2 : ∀ n : Nat, (⟨w.heap.size + 1 + 1 + 1, 0, none⟩ : Addr).add n = ⟨w.heap.size + 1 + 1 + 1, n, none⟩ := fun n => addr0 _ _
    refine bodyPost_ret (v := .tuple #[.agg #[.int .i64 8, .int .i64 i, .int .i64 g, .float .f64 r, .string s, .slice ka (Di.of L).keys.length kc, .slice (some ⟨b', o', none⟩) (Di.of L).kids.len cap], .bool true, (.agg #[.int .i64 k',.int .i64 i',.int .i64 g',.float .f64 r',.string s',.slice ka' keys'.length kc',.slice a' kids'.len cap']), .bool true]) (by simp [results, Tryz.results17, go_sem, hoff1, hoff2, a0, a1, a2, a3, a4, a5, a6, b0, b1, b2, b3, b4, b5, b6]) rfl ?_
    have hKe := (kept7 (b := w.heap.size + 1 + 1 + 1) (kept7 (b := w.heap.size + 1 + 1) hKW (.inl (by omega)) (.int .i64 8) (.int .i64 i) (.int .i64 g) (.float .f64 r) (.string s) (.slice ka (Di.of L).keys.length kc) (.slice (some ⟨b', o', none⟩) (Di.of L).kids.len cap)) (.inl (by omega)) (.int .i64 k') (.int .i64 i') (.int .i64 g') (.float .f64 r') (.string s') (.slice ka' keys'.length kc') (.slice a' kids'.len cap')).drew
    exact ⟨hKe, i, g, r, s, Di.of L, ka, kc, (some ⟨b', o', none⟩), cap, true, ⟨k', i', g', r', s', keys', kids'⟩, ka', kc', a', cap', true, rfl, fun _ => ⟨HZ4.out, lt_kept hKe hN ⟨HFL.out, HKE.out, HKI.out⟩, lt_kept hKe hN HNV.out, .look (by simp) HVA.out⟩⟩)
set_option maxRecDepth 100000 in
set_option maxHeartbeats 8000000 in
theorem do_look1_5 (L : List (ByteArray × Nd)) (op : Int) (key : ByteArray) (y : Nd) (i g : Int) (r : Nat) (s : ByteArray) (N : Bd) (ka : Option Addr) (kc : Nat) (a : Option Addr) (cap : Nat) (kb : Option Addr) (kd : Nat) (ab : Option Addr) (capb : Nat) (w : World) (hd : DiOk (Di.of L)) (hz : Z4 i g r s) (hn : Node (LtB N) w 8 i g r s (Di.of L).keys (Di.of L).kids ka kc a cap)
    (hy : Node (LtB N) w y.k y.i y.g y.r y.s y.keys y.kids kb kd ab capb) (hN : N.n ≤ w.heap.size) (hky : Simp key) (hyo : NdOk y) (hop : I64 op) (_hlb : L.length ≤ 1000000000000) (hop1 : op = 5) (hin : key ∈ (Di.of L).keys) :
    Calls Tryz.prog 17 #[.agg #[.int .i64 8, .int .i64 i, .int .i64 g, .float .f64 r, .string s, .slice ka (Di.of L).keys.length kc, .slice a (Di.of L).kids.len cap], .agg #[.int .i64 op, .string key, .int .i64 y.k, .int .i64 y.i, .int .i64 y.g, .float .f64 y.r, .string y.s, .slice kb y.keys.length kd, .slice ab y.kids.len capb]] w (DoE N (Di.of L) op key y w) := by
  have HOP := Lib.hid hop1; clear hop1
  obtain ⟨⟨⟨k1, k2⟩, ⟨i1, i2⟩, ⟨g1, g2⟩, r1, s1⟩, hkeys, hkids⟩ := hn
  have hkl : (Di.of L).keys.length = L.length := by simp [Di.of]
  have hil : (Di.of L).kids.len = L.length := by simp [Di.of, F.of_len]
  obtain ⟨w0, hw0⟩ : ∃ w0, w0 = (((w.alloc (.cells #[.int .i64 8, .int .i64 i, .int .i64 g, .float .f64 r, .string s, .slice ka (Di.of L).keys.length kc, .slice a (Di.of L).kids.len cap] 26)).alloc (.cells #[.int .i64 op, .string key, .int .i64 y.k, .int .i64 y.i, .int .i64 y.g, .float .f64 y.r, .string y.s, .slice kb y.keys.length kd, .slice ab y.kids.len capb] 45)).alloc (.cells #[.int .i64 0, .int .i64 0, .int .i64 0, .float .f64 0, .string ⟨#[]⟩, .slice none 0 0, .slice none 0 0] 26)).alloc (.cells #[.int .i64 0, .int .i64 0, .int .i64 0, .float .f64 0, .string ⟨#[]⟩, .slice none 0 0, .slice none 0 0] 26) := ⟨_, rfl⟩
  have hK0 : Kept [] w w0 := by rw [hw0]; exact ((((Kept.refl [] w).alloc _).alloc _).alloc _).alloc _
  have hX : w0.heap[w.heap.size]? = some (.cells #[.int .i64 8, .int .i64 i, .int .i64 g, .float .f64 r, .string s, .slice ka (Di.of L).keys.length kc, .slice a (Di.of L).kids.len cap] 26 (0, 0)) := by rw [hw0, heap_lt (by simp; omega), heap_lt (by simp; omega), heap_lt (by simp)]; exact heap_at rfl
  have hT : w0.heap[w.heap.size + 1]? = some (.cells #[.int .i64 op, .string key, .int .i64 y.k, .int .i64 y.i, .int .i64 y.g, .float .f64 y.r, .string y.s, .slice kb y.keys.length kd, .slice ab y.kids.len capb] 45 (0, 0)) := by rw [hw0, heap_lt (by simp), heap_lt (by simp)]; exact heap_at (by simp)
  have hA : w0.heap[w.heap.size + 1 + 1]? = some (.cells #[.int .i64 0, .int .i64 0, .int .i64 0, .float .f64 0, .string ⟨#[]⟩, .slice none 0 0, .slice none 0 0] 26 (0, 0)) := by rw [hw0, heap_lt (by simp)]; exact heap_at (by simp)
  have hB : w0.heap[w.heap.size + 1 + 1 + 1]? = some (.cells #[.int .i64 0, .int .i64 0, .int .i64 0, .float .f64 0, .string ⟨#[]⟩, .slice none 0 0, .slice none 0 0] 26 (0, 0)) := by rw [hw0]; exact heap_at (by simp)
  have hkeys0 := hkeys.kept hK0 (ltkB hN (by simp))
  have hkids0 := hkids.kept hK0 (ltkB hN (by simp))
  have hfind := dictfind key 8 i g r s (Di.of L).keys (Di.of L).kids N ka kc a cap w0 ⟨⟨⟨k1, k2⟩, ⟨i1, i2⟩, ⟨g1, g2⟩, r1, s1⟩, hkeys0, hkids0⟩ (Nat.le_trans hN hK0.size)
  have hfld : Fld 8 i g r s := ⟨⟨k1, k2⟩, ⟨i1, i2⟩, ⟨g1, g2⟩, r1, s1⟩
  obtain ⟨⟨c0, c1, c2, c3, c4, c5, c6⟩, _⟩ := seven hX
  obtain ⟨t0, t1, t2, t3, t4, t5, t6, t7, t8⟩ := nine hT
  have HX := Lib.hid hX; have HT := Lib.hid hT; have HA := Lib.hid hA; have HB := Lib.hid hB; have HKE := Lib.hid hkeys; have HKI := Lib.hid hkids; have HKI0 := Lib.hid hkids0; have HY := Lib.hid hy; have HF := Lib.hid hfind; have HFL := Lib.hid hfld; have HD := Lib.hid hd; have HKY := Lib.hid hky; have HYO := Lib.hid hyo; have HZ4 := Lib.hid hz; have HKL := Lib.hid hkl; have HIL := Lib.hid hil
  clear hX hT hA hB hkeys hkids hkeys0 hkids0 hy hfind hfld hd hky hyo hz hkl hil
  go_enter Tryz.func17, Tryz.ntmps17
  go_upto_region 1 with fail
  rw [← hw0]
  clear hw0
  go_wp2_with fail
  refine HF.out.mono ?_
  rintro e w1 ⟨hK1, p, rfl, hp⟩
  have hK2 : Kept [] w w1 := Kept.trans hK0 hK1 (by simp) (by simp)
  have hXr := (hK1.block w.heap.size (lt_of_block HX.out) (by simp)).trans HX.out
  have hTr := (hK1.block (w.heap.size + 1) (lt_of_block HT.out) (by simp)).trans HT.out
  have hAr := (hK1.block (w.heap.size + 1 + 1) (lt_of_block HA.out) (by simp)).trans HA.out
  have hBr := (hK1.block (w.heap.size + 1 + 1 + 1) (lt_of_block HB.out) (by simp)).trans HB.out
  clear c0 c1 c2 c3 c4 c5 c6 t0 t1 t2 t3 t4 t5 t6 t7 t8
  rcases hp with ⟨rfl, hno⟩ | ⟨j, rfl, hat, hmin⟩
  case' inl => exact absurd hin hno
  obtain ⟨hjl, hje⟩ := List.getElem?_eq_some_iff.1 hat
  rw [HKL.out] at hjl
  have hkey : (L[j]).1 = key := by rw [← hje]; simp [Di.of]
  obtain ⟨b', o', k', i', g', r', s', keys', kids', ka', kc', a', cap', rfl, hbN', hdr, hcs, hnode⟩ := HKI.out.at (j := j) (by rw [HIL.out]; exact hjl)
  have hpj := Di.of_kid hjl hdr
  have hvat : (Di.of L).At key ⟨k', i', g', r', s', keys', kids'⟩ := Di.of_at.2 (by rw [← hkey, ← hpj]; exact List.getElem_mem hjl)
  rw [Nat.mul_comm 7 j] at hcs
  have hbl : b' < N.n := hbN'.1
  have hcc : ∀ p, w1.cell? ⟨b', p, none⟩ = w.cell? ⟨b', p, none⟩ := fun p => hK2.cell (by omega) (by simp)
  obtain ⟨e0, e1, e2, e3, e4, e5, e6⟩ := hcs
  rw [← hcc] at e0 e1 e2 e3 e4 e5 e6
  have hjl2 : (j : Int) < ((Di.of L).kids.len : Int) := by rw [HIL.out]; omega
  have hj0 : (0 : Int) ≤ (j : Int) := Int.natCast_nonneg _
  have hjn : ((j : Int) < 0) = False := by simp
  have HXq := Lib.hid hXr; have HTq := Lib.hid hTr; have HAq := Lib.hid hAr; have HBq := Lib.hid hBr; have HVA := Lib.hid hvat; have HNV := Lib.hid hnode
  obtain ⟨⟨c0, c1, c2, c3, c4, c5, c6⟩, _⟩ := seven hXr
  obtain ⟨t0, t1, t2, t3, t4, t5, t6, t7, t8⟩ := nine hTr
  obtain ⟨⟨a0, a1, a2, a3, a4, a5, a6⟩, p0, p1, p2, p3, p4, p5, p6⟩ := seven hAr
  obtain ⟨⟨b0, b1, b2, b3, b4, b5, b6⟩, q0, q1, q2, q3, q4, q5, q6⟩ := seven hBr
  clear hXr hTr hAr hBr hvat hnode hpj hkey hje hat hmin hin hdr hcc
  go_upto_region 4 with fail
  obtain ⟨W, hW⟩ : ∃ W, W = ((((((w1.setCell ⟨w.heap.size + 1 + 1 + 1, 0, none⟩ (.int .i64 k')).setCell ⟨w.heap.size + 1 + 1 + 1, 1, none⟩ (.int .i64 i')).setCell ⟨w.heap.size + 1 + 1 + 1, 2, none⟩ (.int .i64 g')).setCell ⟨w.heap.size + 1 + 1 + 1, 3, none⟩ (.float .f64 r')).setCell ⟨w.heap.size + 1 + 1 + 1, 4, none⟩ (.string s')).setCell ⟨w.heap.size + 1 + 1 + 1, 5, none⟩ (.slice ka' keys'.length kc')).setCell ⟨w.heap.size + 1 + 1 + 1, 6, none⟩ (.slice a' kids'.len cap') := ⟨_, rfl⟩
  have hbz1 := lt_of_block HBq.out
  have hk1 : Kept [w.heap.size + 1 + 1 + 1] w1 W := by rw [hW]; exact kept7 (Kept.refl _ _) (.inr (by simp)) _ _ _ _ _ _ _
  have hKW : Kept [] w W := by rw [hW]; exact kept7 hK2 (.inl (by omega)) _ _ _ _ _ _ _
  have hXr := (hk1.block w.heap.size (lt_of_block HXq.out) (by simp only [List.mem_singleton]; omega)).trans HXq.out
  have hTr := (hk1.block (w.heap.size + 1) (lt_of_block HTq.out) (by simp only [List.mem_singleton]; omega)).trans HTq.out
  have hAr := (hk1.block (w.heap.size + 1 + 1) (lt_of_block HAq.out) (by simp only [List.mem_singleton]; omega)).trans HAq.out
  have hBr : W.heap[w.heap.size + 1 + 1 + 1]? = some (.cells #[.int .i64 k', .int .i64 i', .int .i64 g', .float .f64 r', .string s', .slice ka' keys'.length kc', .slice a' kids'.len cap'] 26 (0, 0)) := by rw [hW]; exact set7 HBq.out _ _ _ _ _ _ _
  rw [← hW]
  clear hW c0 c1 c2 c3 c4 c5 c6 t0 t1 t2 t3 t4 t5 t6 t7 t8 a0 a1 a2 a3 a4 a5 a6 p0 p1 p2 p3 p4 p5 p6 b0 b1 b2 b3 b4 b5 b6 q0 q1 q2 q3 q4 q5 q6 e0 e1 e2 e3 e4 e5 e6
  have HXr := Lib.hid hXr; have HTr := Lib.hid hTr; have HAr := Lib.hid hAr; have HBr := Lib.hid hBr
  obtain ⟨⟨c0, c1, c2, c3, c4, c5, c6⟩, _⟩ := seven hXr
  obtain ⟨t0, t1, t2, t3, t4, t5, t6, t7, t8⟩ := nine hTr
  obtain ⟨⟨a0, a1, a2, a3, a4, a5, a6⟩, p0, p1, p2, p3, p4, p5, p6⟩ := seven hAr
  obtain ⟨⟨b0, b1, b2, b3, b4, b5, b6⟩, q0, q1, q2, q3, q4, q5, q6⟩ := seven hBr
  clear hXr hTr hAr hBr
  have hbz := lt_of_block HBr.out
  obtain ⟨o1, o2⟩ := hop
  have hop1 := HOP.out; clear HOP
  subst hop1
  go_wp2_with fail
  go_region
  all_goals go_wp2_with fail
  all_goals (
    have hoff1 : ∀ n : Nat, (⟨w.heap.size + 1 + 1, 0, none⟩ : Addr).add n = ⟨w.heap.size + 1 + 1, n, none⟩ := fun n => addr0 _ _
    have hoff2 : ∀ n : Nat, (⟨w.heap.size + 1 + 1 + 1, 0, none⟩ : Addr).add n = ⟨w.heap.size + 1 + 1 + 1, n, none⟩ := fun n => addr0 _ _
    refine bodyPost_ret (v := .tuple #[.agg #[.int .i64 8, .int .i64 i, .int .i64 g, .float .f64 r, .string s, .slice ka (Di.of L).keys.length kc, .slice (some ⟨b', o', none⟩) (Di.of L).kids.len cap], .bool true, (.agg #[.int .i64 k',.int .i64 i',.int .i64 g',.float .f64 r',.string s',.slice ka' keys'.length kc',.slice a' kids'.len cap']), .bool true]) (by simp [results, Tryz.results17, go_sem, hoff1, hoff2, a0, a1, a2, a3, a4, a5, a6, b0, b1, b2, b3, b4, b5, b6]) rfl ?_
    have hKe := (kept7 (b := w.heap.size + 1 + 1 + 1) (kept7 (b := w.heap.size + 1 + 1) hKW (.inl (by omega)) (.int .i64 8) (.int .i64 i) (.int .i64 g) (.float .f64 r) (.string s) (.slice ka (Di.of L).keys.length kc) (.slice (some ⟨b', o', none⟩) (Di.of L).kids.len cap)) (.inl (by omega)) (.int .i64 k') (.int .i64 i') (.int .i64 g') (.float .f64 r') (.string s') (.slice ka' keys'.length kc') (.slice a' kids'.len cap')).drew
    exact ⟨hKe, i, g, r, s, Di.of L, ka, kc, (some ⟨b', o', none⟩), cap, true, ⟨k', i', g', r', s', keys', kids'⟩, ka', kc', a', cap', true, rfl, fun _ => ⟨HZ4.out, lt_kept hKe hN ⟨HFL.out, HKE.out, HKI.out⟩, lt_kept hKe hN HNV.out, .look (by simp) HVA.out⟩⟩)
end Go.Proofs.YtfkecmlmnhbmoaaGreatDoor
namespace Go.Proofs.YtfkecmlmnhbmoaaGreatDoor
open Go.RowKit Go.Maps
set_option maxRecDepth 100000 in
set_option maxHeartbeats 8000000 in
theorem do_del0 (L : List (ByteArray × Nd)) (op : Int) (key : ByteArray) (y : Nd) (i g : Int) (r : Nat) (s : ByteArray) (N : Bd) (ka : Option Addr) (kc : Nat) (a : Option Addr) (cap : Nat) (kb : Option Addr) (kd : Nat) (ab : Option Addr) (capb : Nat) (w : World) (hd : DiOk (Di.of L)) (hz : Z4 i g r s) (hn : Node (LtB N) w 8 i g r s (Di.of L).keys (Di.of L).kids ka kc a cap)
    (hy : Node (LtB N) w y.k y.i y.g y.r y.s y.keys y.kids kb kd ab capb) (hN : N.n ≤ w.heap.size) (hky : Simp key) (hyo : NdOk y) (hop : I64 op) (_hlb : L.length ≤ 1000000000000) (hop1 : op = 2) (hno0 : key ∉ (Di.of L).keys) :
    Calls Tryz.prog 17 #[.agg #[.int .i64 8, .int .i64 i, .int .i64 g, .float .f64 r, .string s, .slice ka (Di.of L).keys.length kc, .slice a (Di.of L).kids.len cap], .agg #[.int .i64 op, .string key, .int .i64 y.k, .int .i64 y.i, .int .i64 y.g, .float .f64 y.r, .string y.s, .slice kb y.keys.length kd, .slice ab y.kids.len capb]] w (DoE N (Di.of L) op key y w) := by
  have HOP := Lib.hid hop1; clear hop1
  obtain ⟨⟨⟨k1, k2⟩, ⟨i1, i2⟩, ⟨g1, g2⟩, r1, s1⟩, hkeys, hkids⟩ := hn
  have hkl : (Di.of L).keys.length = L.length := by simp [Di.of]
  have hil : (Di.of L).kids.len = L.length := by simp [Di.of, F.of_len]
  obtain ⟨w0, hw0⟩ : ∃ w0, w0 = (((w.alloc (.cells #[.int .i64 8, .int .i64 i, .int .i64 g, .float .f64 r, .string s, .slice ka (Di.of L).keys.length kc, .slice a (Di.of L).kids.len cap] 26)).alloc (.cells #[.int .i64 op, .string key, .int .i64 y.k, .int .i64 y.i, .int .i64 y.g, .float .f64 y.r, .string y.s, .slice kb y.keys.length kd, .slice ab y.kids.len capb] 45)).alloc (.cells #[.int .i64 0, .int .i64 0, .int .i64 0, .float .f64 0, .string ⟨#[]⟩, .slice none 0 0, .slice none 0 0] 26)).alloc (.cells #[.int .i64 0, .int .i64 0, .int .i64 0, .float .f64 0, .string ⟨#[]⟩, .slice none 0 0, .slice none 0 0] 26) := ⟨_, rfl⟩
  have hK0 : Kept [] w w0 := by rw [hw0]; exact ((((Kept.refl [] w).alloc _).alloc _).alloc _).alloc _
  have hX : w0.heap[w.heap.size]? = some (.cells #[.int .i64 8, .int .i64 i, .int .i64 g, .float .f64 r, .string s, .slice ka (Di.of L).keys.length kc, .slice a (Di.of L).kids.len cap] 26 (0, 0)) := by rw [hw0, heap_lt (by simp; omega), heap_lt (by simp; omega), heap_lt (by simp)]; exact heap_at rfl
  have hT : w0.heap[w.heap.size + 1]? = some (.cells #[.int .i64 op, .string key, .int .i64 y.k, .int .i64 y.i, .int .i64 y.g, .float .f64 y.r, .string y.s, .slice kb y.keys.length kd, .slice ab y.kids.len capb] 45 (0, 0)) := by rw [hw0, heap_lt (by simp), heap_lt (by simp)]; exact heap_at (by simp)
  have hA : w0.heap[w.heap.size + 1 + 1]? = some (.cells #[.int .i64 0, .int .i64 0, .int .i64 0, .float .f64 0, .string ⟨#[]⟩, .slice none 0 0, .slice none 0 0] 26 (0, 0)) := by rw [hw0, heap_lt (by simp)]; exact heap_at (by simp)
  have hB : w0.heap[w.heap.size + 1 + 1 + 1]? = some (.cells #[.int .i64 0, .int .i64 0, .int .i64 0, .float .f64 0, .string ⟨#[]⟩, .slice none 0 0, .slice none 0 0] 26 (0, 0)) := by rw [hw0]; exact heap_at (by simp)
  have hkeys0 := hkeys.kept hK0 (ltkB hN (by simp))
  have hkids0 := hkids.kept hK0 (ltkB hN (by simp))
  have hfind := dictfind key 8 i g r s (Di.of L).keys (Di.of L).kids N ka kc a cap w0 ⟨⟨⟨k1, k2⟩, ⟨i1, i2⟩, ⟨g1, g2⟩, r1, s1⟩, hkeys0, hkids0⟩ (Nat.le_trans hN hK0.size)
  have hfld : Fld 8 i g r s := ⟨⟨k1, k2⟩, ⟨i1, i2⟩, ⟨g1, g2⟩, r1, s1⟩
  obtain ⟨⟨c0, c1, c2, c3, c4, c5, c6⟩, _⟩ := seven hX
  obtain ⟨t0, t1, t2, t3, t4, t5, t6, t7, t8⟩ := nine hT
  have HX := Lib.hid hX; have HT := Lib.hid hT; have HA := Lib.hid hA; have HB := Lib.hid hB; have HKE := Lib.hid hkeys; have HKI := Lib.hid hkids; have HKI0 := Lib.hid hkids0; have HY := Lib.hid hy; have HF := Lib.hid hfind; have HFL := Lib.hid hfld; have HD := Lib.hid hd; have HKY := Lib.hid hky; have HYO := Lib.hid hyo; have HZ4 := Lib.hid hz; have HKL := Lib.hid hkl; have HIL := Lib.hid hil
  clear hX hT hA hB hkeys hkids hkeys0 hkids0 hy hfind hfld hd hky hyo hz hkl hil
  go_enter Tryz.func17, Tryz.ntmps17
  go_upto_region 1 with fail
  rw [← hw0]
  clear hw0
  go_wp2_with fail
  refine HF.out.mono ?_
  rintro e w1 ⟨hK1, p, rfl, hp⟩
  have hK2 : Kept [] w w1 := Kept.trans hK0 hK1 (by simp) (by simp)
  have hXr := (hK1.block w.heap.size (lt_of_block HX.out) (by simp)).trans HX.out
  have hTr := (hK1.block (w.heap.size + 1) (lt_of_block HT.out) (by simp)).trans HT.out
  have hAr := (hK1.block (w.heap.size + 1 + 1) (lt_of_block HA.out) (by simp)).trans HA.out
  have hBr := (hK1.block (w.heap.size + 1 + 1 + 1) (lt_of_block HB.out) (by simp)).trans HB.out
  clear c0 c1 c2 c3 c4 c5 c6 t0 t1 t2 t3 t4 t5 t6 t7 t8
  rcases hp with ⟨rfl, hno⟩ | ⟨j, rfl, hat, hmin⟩
  case' inr => exact absurd (List.mem_of_getElem? hat) hno0
  obtain ⟨W, hW⟩ : ∃ W, W = w1 := ⟨_, rfl⟩
  rw [← hW] at hXr hTr hAr hBr hK2 ⊢
  have hKW := hK2
  have HXr := Lib.hid hXr; have HTr := Lib.hid hTr; have HAr := Lib.hid hAr; have HBr := Lib.hid hBr; have HNO := Lib.hid hno
  obtain ⟨⟨c0, c1, c2, c3, c4, c5, c6⟩, _⟩ := seven hXr
  obtain ⟨t0, t1, t2, t3, t4, t5, t6, t7, t8⟩ := nine hTr
  obtain ⟨⟨a0, a1, a2, a3, a4, a5, a6⟩, p0, p1, p2, p3, p4, p5, p6⟩ := seven hAr
  obtain ⟨⟨b0, b1, b2, b3, b4, b5, b6⟩, q0, q1, q2, q3, q4, q5, q6⟩ := seven hBr
  clear hno hno0 hXr hTr hAr hBr hW hK1 hK2
  have hbz := lt_of_block HBr.out
  obtain ⟨o1, o2⟩ := hop
  have hop1 := HOP.out; clear HOP
  subst hop1
  have hcall : ∀ W', Kept [] W W' → Calls Tryz.prog 35 #[.agg #[.int .i64 8, .int .i64 i, .int .i64 g, .float .f64 r, .string s, .slice ka (Di.of L).keys.length kc, .slice a (Di.of L).kids.len cap], .string key] W' (DxE N (DropR (Di.of L) key) W') := fun W' hW' => by
    have hK5 := Kept.trans hKW hW' (Z := []) (by simp) (by simp)
    exact dictdrop L key i g r s N ka kc a cap W' HD.out ⟨HFL.out, HKE.out.kept hK5 (ltkB hN (by simp)), HKI.out.kept hK5 (ltkB hN (by simp))⟩ (Nat.le_trans hN hK5.size)
  have HC := Lib.hid hcall; clear hcall
  go_wp2_with fail
  have hS : ∀ W', Kept [w.heap.size + 1 + 1, w.heap.size + 1 + 1 + 1] W W' → W'.cell? ⟨w.heap.size, 0, none⟩ = some (.int .i64 8) ∧ W'.cell? ⟨w.heap.size, 1, none⟩ = some (.int .i64 i) ∧ W'.cell? ⟨w.heap.size, 2, none⟩ = some (.int .i64 g) ∧ W'.cell? ⟨w.heap.size, 3, none⟩ = some (.float .f64 r) ∧ W'.cell? ⟨w.heap.size, 4, none⟩ = some (.string s) ∧ W'.cell? ⟨w.heap.size, 5, none⟩ = some (.slice ka (Di.of L).keys.length kc) ∧ W'.cell? ⟨w.heap.size, 6, none⟩ = some (.slice a (Di.of L).kids.len cap) ∧ W'.cell? ⟨w.heap.size + 1, 1, none⟩ = some (.string key) := fun W' hW' => by
    have e1 : ∀ p, W'.cell? ⟨w.heap.size, p, none⟩ = W.cell? ⟨w.heap.size, p, none⟩ := fun p => hW'.cell (lt_of_block HXr.out) (by intro hm; first | (simp at hm; done) | (simp at hm; omega))
    have e2 : ∀ p, W'.cell? ⟨w.heap.size + 1, p, none⟩ = W.cell? ⟨w.heap.size + 1, p, none⟩ := fun p => hW'.cell (lt_of_block HTr.out) (by intro hm; first | (simp at hm; done) | (simp at hm; omega))
    exact ⟨(e1 _).trans c0, (e1 _).trans c1, (e1 _).trans c2, (e1 _).trans c3, (e1 _).trans c4, (e1 _).trans c5, (e1 _).trans c6, (e2 _).trans t1⟩
  have hZ : ∀ W', Kept [w.heap.size + 1 + 1] W W' → W'.cell? ⟨w.heap.size + 1 + 1 + 1, 0, none⟩ = some (.int .i64 0) ∧ W'.cell? ⟨w.heap.size + 1 + 1 + 1, 1, none⟩ = some (.int .i64 0) ∧ W'.cell? ⟨w.heap.size + 1 + 1 + 1, 2, none⟩ = some (.int .i64 0) ∧ W'.cell? ⟨w.heap.size + 1 + 1 + 1, 3, none⟩ = some (.float .f64 0) ∧ W'.cell? ⟨w.heap.size + 1 + 1 + 1, 4, none⟩ = some (.string ⟨#[]⟩) ∧ W'.cell? ⟨w.heap.size + 1 + 1 + 1, 5, none⟩ = some (.slice none 0 0) ∧ W'.cell? ⟨w.heap.size + 1 + 1 + 1, 6, none⟩ = some (.slice none 0 0) := fun W' hW' => by
    have e1 : ∀ p, W'.cell? ⟨w.heap.size + 1 + 1 + 1, p, none⟩ = W.cell? ⟨w.heap.size + 1 + 1 + 1, p, none⟩ := fun p => hW'.cell (lt_of_block HBr.out) (by intro hm; first | (simp at hm; done) | (simp at hm; omega))
    exact ⟨(e1 _).trans b0, (e1 _).trans b1, (e1 _).trans b2, (e1 _).trans b3, (e1 _).trans b4, (e1 _).trans b5, (e1 _).trans b6⟩
  have HS := Lib.hid hS; have HZ := Lib.hid hZ; clear hS hZ
  have hKs : Kept [w.heap.size + 1 + 1, w.heap.size + 1 + 1 + 1] W W := Kept.refl _ _
  have hKt : Kept [w.heap.size + 1 + 1] W W := Kept.refl _ _
  refine wp_region_noPanic ?_
  refine wp_region_T (C := fun W => W.cell? ⟨w.heap.size, 0, none⟩ = some (.int .i64 8) ∧ W.cell? ⟨w.heap.size, 1, none⟩ = some (.int .i64 i) ∧ W.cell? ⟨w.heap.size, 2, none⟩ = some (.int .i64 g) ∧ W.cell? ⟨w.heap.size, 3, none⟩ = some (.float .f64 r) ∧ W.cell? ⟨w.heap.size, 4, none⟩ = some (.string s) ∧ W.cell? ⟨w.heap.size, 5, none⟩ = some (.slice ka (Di.of L).keys.length kc) ∧ W.cell? ⟨w.heap.size, 6, none⟩ = some (.slice a (Di.of L).kids.len cap) ∧ W.cell? ⟨w.heap.size + 1, 1, none⟩ = some (.string key)) (D := fun W => W.cell? ⟨w.heap.size + 1 + 1 + 1, 0, none⟩ = some (.int .i64 0) ∧ W.cell? ⟨w.heap.size + 1 + 1 + 1, 1, none⟩ = some (.int .i64 0) ∧ W.cell? ⟨w.heap.size + 1 + 1 + 1, 2, none⟩ = some (.int .i64 0) ∧ W.cell? ⟨w.heap.size + 1 + 1 + 1, 3, none⟩ = some (.float .f64 0) ∧ W.cell? ⟨w.heap.size + 1 + 1 + 1, 4, none⟩ = some (.string ⟨#[]⟩) ∧ W.cell? ⟨w.heap.size + 1 + 1 + 1, 5, none⟩ = some (.slice none 0 0) ∧ W.cell? ⟨w.heap.size + 1 + 1 + 1, 6, none⟩ = some (.slice none 0 0)) (st := 9) (by kernel_rfl) ⟨HS.out _ (Kept.refl _ _).drew, fun _ => HZ.out _ (Kept.refl _ _).drew⟩ (fun hH => ?_)
  refine wpT_takeC (i := 0) (v := ?_) rfl (by kernel_rfl) (by kernel_rfl) (by kernel_rfl) (by kernel_rfl) (by kernel_rfl) (fun _ _ _ h => h) (Or.inl ⟨by rfl, ?_⟩) (by assumption) ?_
  rotate_left 1
  · intro W hSw
    (try dsimp only at hSw)
    go_simp
    (try with_reducible rfl)
  (try simp only [Act.put, List.getElem_toArray, List.getElem_cons_zero, List.setIfInBounds_toArray, List.set_cons_zero, List.set_cons_succ])
  refine wpT_takeC (i := 1) (v := ?_) rfl (by kernel_rfl) (by kernel_rfl) (by kernel_rfl) (by kernel_rfl) (by kernel_rfl) (fun _ _ _ h => h) (Or.inl ⟨by rfl, ?_⟩) (by assumption) ?_
  rotate_left 1
  · intro W hSw
    (try dsimp only at hSw)
    go_simp
    (try with_reducible rfl)
  (try simp only [Act.put, List.getElem_toArray, List.getElem_cons_succ, List.getElem_cons_zero, List.setIfInBounds_toArray, List.set_cons_zero, List.set_cons_succ])
  refine wpT_takeC (i := 2) (v := ?_) rfl (by kernel_rfl) (by kernel_rfl) (by kernel_rfl) (by kernel_rfl) (by kernel_rfl) (fun _ _ _ h => h) (Or.inl ⟨by rfl, ?_⟩) (by assumption) ?_
  rotate_left 1
  · intro W hSw
    (try dsimp only at hSw)
    go_simp
    (try with_reducible rfl)
  (try simp only [Act.put, List.getElem_toArray, List.getElem_cons_succ, List.getElem_cons_zero, List.setIfInBounds_toArray, List.set_cons_zero, List.set_cons_succ])
  refine wpT_takeC (i := 4) (v := ?_) rfl (by kernel_rfl) (by kernel_rfl) (by kernel_rfl) (by kernel_rfl) (by kernel_rfl) (fun _ _ _ h => h) (Or.inl ⟨by rfl, ?_⟩) (by assumption) ?_
  rotate_left 1
  · intro W hSw
    (try dsimp only at hSw)
    go_simp
    (try with_reducible rfl)
  (try simp only [Act.put, List.getElem_toArray, List.getElem_cons_succ, List.getElem_cons_zero, List.setIfInBounds_toArray, List.set_cons_zero, List.set_cons_succ])
  refine wpT_takeC (i := 5) (v := ?_) rfl (by kernel_rfl) (by kernel_rfl) (by kernel_rfl) (by kernel_rfl) (by kernel_rfl) (fun _ _ _ h => h) (Or.inl ⟨by rfl, ?_⟩) (by assumption) ?_
  rotate_left 1
  · intro W hSw
    (try dsimp only at hSw)
    go_simp
    (try with_reducible rfl)
  (try simp only [Act.put, List.getElem_toArray, List.getElem_cons_succ, List.getElem_cons_zero, List.setIfInBounds_toArray, List.set_cons_zero, List.set_cons_succ])
  refine wpT_takeD (i := 6) (v := ?_) rfl (by kernel_rfl) (by kernel_rfl) (by kernel_rfl) (by kernel_rfl) (by kernel_rfl) (fun _ _ _ h => h) (Or.inl ⟨by rfl, ?_⟩) (by assumption) ?_
  rotate_left 1
  · intro W hSw
    (try dsimp only at hSw)
    go_simp
    (try with_reducible rfl)
  (try simp only [Act.put, List.getElem_toArray, List.getElem_cons_succ, List.getElem_cons_zero, List.setIfInBounds_toArray, List.set_cons_zero, List.set_cons_succ])
  refine wpT_ready (rs := [3]) (by kernel_rfl) (by simp) ?_
  refine AllT.cons rfl (fun K hK => ?_) AllT.nil
  clear hH
  go_simp
  go_at_call 35
  refine (HC.out _ ((Kept.refl _ _).drew)).mono ?_
  rintro e w2 ⟨hK3', d9, ka9, kc9, a9, cap9, rfl, hnode', hput⟩
  have hK3 : Kept [] W w2 := Kept.trans (Kept.refl [] W).drew hK3' (by simp) (by simp)
  have HN := Lib.hid hnode'; have HP := Lib.hid hput; clear hnode' hput hK3' hKs hKt
  have hKs : Kept [w.heap.size + 1 + 1, w.heap.size + 1 + 1 + 1] W w2 := hK3.mono (by simp)
  have hKt : Kept [w.heap.size + 1 + 1] W w2 := hK3.mono (by simp)
  clear c0 c1 c2 c3 c4 c5 c6 t0 t1 t2 t3 t4 t5 t6 t7 t8 a0 a1 a2 a3 a4 a5 a6 p0 p1 p2 p3 p4 p5 p6 b0 b1 b2 b3 b4 b5 b6 q0 q1 q2 q3 q4 q5 q6
  have hX5 := (hK3.block w.heap.size (lt_of_block HXr.out) (by simp)).trans HXr.out
  have hT5 := (hK3.block (w.heap.size + 1) (lt_of_block HTr.out) (by simp)).trans HTr.out
  have hA5 := (hK3.block (w.heap.size + 1 + 1) (lt_of_block HAr.out) (by simp)).trans HAr.out
  have hB5 := (hK3.block (w.heap.size + 1 + 1 + 1) (lt_of_block HBr.out) (by simp)).trans HBr.out
  obtain ⟨⟨c0, c1, c2, c3, c4, c5, c6⟩, _⟩ := seven hX5
  obtain ⟨t0, t1, t2, t3, t4, t5, t6, t7, t8⟩ := nine hT5
  obtain ⟨⟨a0, a1, a2, a3, a4, a5, a6⟩, p0, p1, p2, p3, p4, p5, p6⟩ := seven hA5
  obtain ⟨⟨b0, b1, b2, b3, b4, b5, b6⟩, q0, q1, q2, q3, q4, q5, q6⟩ := seven hB5
  clear hX5 hT5 hA5 hB5
  (try go_wp2_with fail)
  refine hK.out _ _ ⟨HS.out _ (by repeat (first | with_reducible exact hKs | with_reducible exact Kept.refl _ _ | with_reducible refine Kept.drew ?_ | refine Kept.setCell ?_ (Or.inr (by simp)) _)), fun _ => HZ.out _ (by repeat (first | with_reducible exact hKt | with_reducible exact Kept.refl _ _ | with_reducible refine Kept.drew ?_ | refine Kept.setCell ?_ (Or.inr (by simp)) _))⟩ (fun hH => ?_)
  clear hK K
  (try simp only [Act.put, List.getElem_toArray, List.getElem_cons_succ, List.getElem_cons_zero, List.setIfInBounds_toArray, List.set_cons_zero, List.set_cons_succ])
  refine wpT_ready (rs := [7]) (by kernel_rfl) (by simp) ?_
  refine AllT.cons rfl (fun K hK => ?_) AllT.nil
  clear hH
  go_simp
  refine hK.out _ _ ⟨HS.out _ (by repeat (first | with_reducible exact hKs | with_reducible exact Kept.refl _ _ | with_reducible refine Kept.drew ?_ | refine Kept.setCell ?_ (Or.inr (by simp)) _)), fun _ => HZ.out _ (by repeat (first | with_reducible exact hKt | with_reducible exact Kept.refl _ _ | with_reducible refine Kept.drew ?_ | refine Kept.setCell ?_ (Or.inr (by simp)) _))⟩ (fun hH => ?_)
  clear hK K
  (try simp only [Act.put, List.getElem_toArray, List.getElem_cons_succ, List.getElem_cons_zero, List.setIfInBounds_toArray, List.set_cons_zero, List.set_cons_succ])
  refine wpT_takeC (i := 8) (v := ?_) rfl (by kernel_rfl) (by kernel_rfl) (by kernel_rfl) (by kernel_rfl) (by kernel_rfl) (fun _ _ _ h => h) (Or.inl ⟨by rfl, ?_⟩) (by assumption) ?_
  rotate_left 1
  · intro W hSw
    (try dsimp only at hSw)
    go_simp
    (try with_reducible rfl)
  (try simp only [Act.put, List.getElem_toArray, List.getElem_cons_succ, List.getElem_cons_zero, List.setIfInBounds_toArray, List.set_cons_zero, List.set_cons_succ])
  refine wpT_ready (rs := [9]) (by kernel_rfl) (by simp) ?_
  refine AllT.cons rfl (fun K hK => ?_) AllT.nil
  clear hH
  go_simp
  refine hK.out _ _ ⟨HS.out _ (by repeat (first | with_reducible exact hKs | with_reducible exact Kept.refl _ _ | with_reducible refine Kept.drew ?_ | refine Kept.setCell ?_ (Or.inr (by simp)) _)), fun h => absurd h (by decide)⟩ (fun hH => ?_)
  clear hK K
  (try simp only [Act.put, List.getElem_toArray, List.getElem_cons_succ, List.getElem_cons_zero, List.setIfInBounds_toArray, List.set_cons_zero, List.set_cons_succ])
  refine wpT_takeC (i := 10) (v := ?_) rfl (by kernel_rfl) (by kernel_rfl) (by kernel_rfl) (by kernel_rfl) (by kernel_rfl) (fun _ _ _ h => h) (Or.inl ⟨by rfl, ?_⟩) (by assumption) ?_
  rotate_left 1
  · intro W hSw
    (try dsimp only at hSw)
    go_simp
    (try with_reducible rfl)
  (try simp only [Act.put, List.getElem_toArray, List.getElem_cons_succ, List.getElem_cons_zero, List.setIfInBounds_toArray, List.set_cons_zero, List.set_cons_succ])
  refine wpT_done (by kernel_rfl) ?_ _
  refine NoPanic.normal ?_
  go_wp2_with fail
  have hKf := kept7 (b := w.heap.size + 1 + 1 + 1) (kept7 (b := w.heap.size + 1 + 1) (Kept.refl [w.heap.size + 1 + 1, w.heap.size + 1 + 1 + 1] w2) (.inr (by simp)) (.int .i64 8) (.int .i64 0) (.int .i64 0) (.float .f64 0) (.string ⟨#[]⟩) (.slice ka9 d9.keys.length kc9) (.slice a9 d9.kids.len cap9)) (.inr (by simp)) (.int .i64 0) (.int .i64 0) (.int .i64 0) (.float .f64 0) (.string ⟨#[]⟩) (.slice none 0 0) (.slice none 0 0)
  have hKw : Kept [] w w2 := Kept.trans hKW hK3 (by simp) (by simp)
  have hKe := kept7 (b := w.heap.size + 1 + 1 + 1) (kept7 (b := w.heap.size + 1 + 1) hKw (.inl (by omega)) (.int .i64 8) (.int .i64 0) (.int .i64 0) (.float .f64 0) (.string ⟨#[]⟩) (.slice ka9 d9.keys.length kc9) (.slice a9 d9.kids.len cap9)) (.inl (by omega)) (.int .i64 0) (.int .i64 0) (.int .i64 0) (.float .f64 0) (.string ⟨#[]⟩) (.slice none 0 0) (.slice none 0 0)
  have hoff1 : ∀ n : Nat, (⟨w.heap.size + 1 + 1, 0, none⟩ : Addr).add n = ⟨w.heap.size + 1 + 1, n, none⟩ := fun n => addr0 _ _
  have hoff2 : ∀ n : Nat, (⟨w.heap.size + 1 + 1 + 1, 0, none⟩ : Addr).add n = ⟨w.heap.size + 1 + 1 + 1, n, none⟩ := fun n => addr0 _ _
  refine bodyPost_ret (v := .tuple #[.agg #[.int .i64 8, .int .i64 0, .int .i64 0, .float .f64 0, .string ⟨#[]⟩, .slice ka9 d9.keys.length kc9, .slice a9 d9.kids.len cap9], .bool false, (.agg #[.int .i64 0,.int .i64 0,.int .i64 0,.float .f64 0,.string ⟨#[]⟩,.slice none 0 0,.slice none 0 0]), .bool true]) (by simp [results, Tryz.results17, go_sem, hoff1, hoff2, a0, a1, a2, a3, a4, a5, a6, b0, b1, b2, b3, b4, b5, b6]) rfl ?_
  refine ⟨hKe, 0, 0, 0, ⟨#[]⟩, d9, ka9, kc9, a9, cap9, false, Nd.zero, none, 0, none, 0, true, rfl, fun _ => ⟨⟨rfl, rfl, feq00, rfl⟩, fr_kept hKW hKf (fun x hx => ?_) (Nat.le_trans hN hKw.size) HN.out, zeroNode, .delNo rfl HNO.out HP.out⟩⟩
  simp at hx
  omega
set_option maxRecDepth 100000 in
set_option maxHeartbeats 8000000 in
theorem do_del1 (L : List (ByteArray × Nd)) (op : Int) (key : ByteArray) (y : Nd) (i g : Int) (r : Nat) (s : ByteArray) (N : Bd) (ka : Option Addr) (kc : Nat) (a : Option Addr) (cap : Nat) (kb : Option Addr) (kd : Nat) (ab : Option Addr) (capb : Nat) (w : World) (hd : DiOk (Di.of L)) (hz : Z4 i g r s) (hn : Node (LtB N) w 8 i g r s (Di.of L).keys (Di.of L).kids ka kc a cap)
    (hy : Node (LtB N) w y.k y.i y.g y.r y.s y.keys y.kids kb kd ab capb) (hN : N.n ≤ w.heap.size) (hky : Simp key) (hyo : NdOk y) (hop : I64 op) (_hlb : L.length ≤ 1000000000000) (hop1 : op = 2) (hin : key ∈ (Di.of L).keys) :
    Calls Tryz.prog 17 #[.agg #[.int .i64 8, .int .i64 i, .int .i64 g, .float .f64 r, .string s, .slice ka (Di.of L).keys.length kc, .slice a (Di.of L).kids.len cap], .agg #[.int .i64 op, .string key, .int .i64 y.k, .int .i64 y.i, .int .i64 y.g, .float .f64 y.r, .string y.s, .slice kb y.keys.length kd, .slice ab y.kids.len capb]] w (DoE N (Di.of L) op key y w) := by
  have HOP := Lib.hid hop1; clear hop1
  obtain ⟨⟨⟨k1, k2⟩, ⟨i1, i2⟩, ⟨g1, g2⟩, r1, s1⟩, hkeys, hkids⟩ := hn
  have hkl : (Di.of L).keys.length = L.length := by simp [Di.of]
  have hil : (Di.of L).kids.len = L.length := by simp [Di.of, F.of_len]
  obtain ⟨w0, hw0⟩ : ∃ w0, w0 = (((w.alloc (.cells #[.int .i64 8, .int .i64 i, .int .i64 g, .float .f64 r, .string s, .slice ka (Di.of L).keys.length kc, .slice a (Di.of L).kids.len cap] 26)).alloc (.cells #[.int .i64 op, .string key, .int .i64 y.k, .int .i64 y.i, .int .i64 y.g, .float .f64 y.r, .string y.s, .slice kb y.keys.length kd, .slice ab y.kids.len capb] 45)).alloc (.cells #[.int .i64 0, .int .i64 0, .int .i64 0, .float .f64 0, .string ⟨#[]⟩, .slice none 0 0, .slice none 0 0] 26)).alloc (.cells #[.int .i64 0, .int .i64 0, .int .i64 0, .float .f64 0, .string ⟨#[]⟩, .slice none 0 0, .slice none 0 0] 26) := ⟨_, rfl⟩
  have hK0 : Kept [] w w0 := by rw [hw0]; exact ((((Kept.refl [] w).alloc _).alloc _).alloc _).alloc _
  have hX : w0.heap[w.heap.size]? = some (.cells #[.int .i64 8, .int .i64 i, .int .i64 g, .float .f64 r, .string s, .slice ka (Di.of L).keys.length kc, .slice a (Di.of L).kids.len cap] 26 (0, 0)) := by rw [hw0, heap_lt (by simp; omega), heap_lt (by simp; omega), heap_lt (by simp)]; exact heap_at rfl
  have hT : w0.heap[w.heap.size + 1]? = some (.cells #[.int .i64 op, .string key, .int .i64 y.k, .int .i64 y.i, .int .i64 y.g, .float .f64 y.r, .string y.s, .slice kb y.keys.length kd, .slice ab y.kids.len capb] 45 (0, 0)) := by rw [hw0, heap_lt (by simp), heap_lt (by simp)]; exact heap_at (by simp)
  have hA : w0.heap[w.heap.size + 1 + 1]? = some (.cells #[.int .i64 0, .int .i64 0, .int .i64 0, .float .f64 0, .string ⟨#[]⟩, .slice none 0 0, .slice none 0 0] 26 (0, 0)) := by rw [hw0, heap_lt (by simp)]; exact heap_at (by simp)
  have hB : w0.heap[w.heap.size + 1 + 1 + 1]? = some (.cells #[.int .i64 0, .int .i64 0, .int .i64 0, .float .f64 0, .string ⟨#[]⟩, .slice none 0 0, .slice none 0 0] 26 (0, 0)) := by rw [hw0]; exact heap_at (by simp)
  have hkeys0 := hkeys.kept hK0 (ltkB hN (by simp))
  have hkids0 := hkids.kept hK0 (ltkB hN (by simp))
  have hfind := dictfind key 8 i g r s (Di.of L).keys (Di.of L).kids N ka kc a cap w0 ⟨⟨⟨k1, k2⟩, ⟨i1, i2⟩, ⟨g1, g2⟩, r1, s1⟩, hkeys0, hkids0⟩ (Nat.le_trans hN hK0.size)
  have hfld : Fld 8 i g r s := ⟨⟨k1, k2⟩, ⟨i1, i2⟩, ⟨g1, g2⟩, r1, s1⟩
  obtain ⟨⟨c0, c1, c2, c3, c4, c5, c6⟩, _⟩ := seven hX
  obtain ⟨t0, t1, t2, t3, t4, t5, t6, t7, t8⟩ := nine hT
  have HX := Lib.hid hX; have HT := Lib.hid hT; have HA := Lib.hid hA; have HB := Lib.hid hB; have HKE := Lib.hid hkeys; have HKI := Lib.hid hkids; have HKI0 := Lib.hid hkids0; have HY := Lib.hid hy; have HF := Lib.hid hfind; have HFL := Lib.hid hfld; have HD := Lib.hid hd; have HKY := Lib.hid hky; have HYO := Lib.hid hyo; have HZ4 := Lib.hid hz; have HKL := Lib.hid hkl; have HIL := Lib.hid hil
  clear hX hT hA hB hkeys hkids hkeys0 hkids0 hy hfind hfld hd hky hyo hz hkl hil
  go_enter Tryz.func17, Tryz.ntmps17
  go_upto_region 1 with fail
  rw [← hw0]
  clear hw0
  go_wp2_with fail
  refine HF.out.mono ?_
  rintro e w1 ⟨hK1, p, rfl, hp⟩
  have hK2 : Kept [] w w1 := Kept.trans hK0 hK1 (by simp) (by simp)
  have hXr := (hK1.block w.heap.size (lt_of_block HX.out) (by simp)).trans HX.out
  have hTr := (hK1.block (w.heap.size + 1) (lt_of_block HT.out) (by simp)).trans HT.out
  have hAr := (hK1.block (w.heap.size + 1 + 1) (lt_of_block HA.out) (by simp)).trans HA.out
  have hBr := (hK1.block (w.heap.size + 1 + 1 + 1) (lt_of_block HB.out) (by simp)).trans HB.out
  clear c0 c1 c2 c3 c4 c5 c6 t0 t1 t2 t3 t4 t5 t6 t7 t8
  rcases hp with ⟨rfl, hno⟩ | ⟨j, rfl, hat, hmin⟩
  case' inl => exact absurd hin hno
  obtain ⟨hjl, hje⟩ := List.getElem?_eq_some_iff.1 hat
  rw [HKL.out] at hjl
  have hkey : (L[j]).1 = key := by rw [← hje]; simp [Di.of]
  obtain ⟨b', o', k', i', g', r', s', keys', kids', ka', kc', a', cap', rfl, hbN', hdr, hcs, hnode⟩ := HKI.out.at (j := j) (by rw [HIL.out]; exact hjl)
  have hpj := Di.of_kid hjl hdr
  have hvat : (Di.of L).At key ⟨k', i', g', r', s', keys', kids'⟩ := Di.of_at.2 (by rw [← hkey, ← hpj]; exact List.getElem_mem hjl)
  rw [Nat.mul_comm 7 j] at hcs
  have hbl : b' < N.n := hbN'.1
  have hcc : ∀ p, w1.cell? ⟨b', p, none⟩ = w.cell? ⟨b', p, none⟩ := fun p => hK2.cell (by omega) (by simp)
  obtain ⟨e0, e1, e2, e3, e4, e5, e6⟩ := hcs
  rw [← hcc] at e0 e1 e2 e3 e4 e5 e6
  have hjl2 : (j : Int) < ((Di.of L).kids.len : Int) := by rw [HIL.out]; omega
  have hj0 : (0 : Int) ≤ (j : Int) := Int.natCast_nonneg _
  have hjn : ((j : Int) < 0) = False := by simp
  have HXq := Lib.hid hXr; have HTq := Lib.hid hTr; have HAq := Lib.hid hAr; have HBq := Lib.hid hBr; have HVA := Lib.hid hvat; have HNV := Lib.hid hnode
  obtain ⟨⟨c0, c1, c2, c3, c4, c5, c6⟩, _⟩ := seven hXr
  obtain ⟨t0, t1, t2, t3, t4, t5, t6, t7, t8⟩ := nine hTr
  obtain ⟨⟨a0, a1, a2, a3, a4, a5, a6⟩, p0, p1, p2, p3, p4, p5, p6⟩ := seven hAr
  obtain ⟨⟨b0, b1, b2, b3, b4, b5, b6⟩, q0, q1, q2, q3, q4, q5, q6⟩ := seven hBr
  clear hXr hTr hAr hBr hvat hnode hpj hkey hje hat hmin hin hdr hcc
  go_upto_region 4 with fail
  obtain ⟨W, hW⟩ : ∃ W, W = ((((((w1.setCell ⟨w.heap.size + 1 + 1 + 1, 0, none⟩ (.int .i64 k')).setCell ⟨w.heap.size + 1 + 1 + 1, 1, none⟩ (.int .i64 i')).setCell ⟨w.heap.size + 1 + 1 + 1, 2, none⟩ (.int .i64 g')).setCell ⟨w.heap.size + 1 + 1 + 1, 3, none⟩ (.float .f64 r')).setCell ⟨w.heap.size + 1 + 1 + 1, 4, none⟩ (.string s')).setCell ⟨w.heap.size + 1 + 1 + 1, 5, none⟩ (.slice ka' keys'.length kc')).setCell ⟨w.heap.size + 1 + 1 + 1, 6, none⟩ (.slice a' kids'.len cap') := ⟨_, rfl⟩
  have hbz1 := lt_of_block HBq.out
  have hk1 : Kept [w.heap.size + 1 + 1 + 1] w1 W := by rw [hW]; exact kept7 (Kept.refl _ _) (.inr (by simp)) _ _ _ _ _ _ _
  have hKW : Kept [] w W := by rw [hW]; exact kept7 hK2 (.inl (by omega)) _ _ _ _ _ _ _
  have hXr := (hk1.block w.heap.size (lt_of_block HXq.out) (by simp only [List.mem_singleton]; omega)).trans HXq.out
  have hTr := (hk1.block (w.heap.size + 1) (lt_of_block HTq.out) (by simp only [List.mem_singleton]; omega)).trans HTq.out
  have hAr := (hk1.block (w.heap.size + 1 + 1) (lt_of_block HAq.out) (by simp only [List.mem_singleton]; omega)).trans HAq.out
  have hBr : W.heap[w.heap.size + 1 + 1 + 1]? = some (.cells #[.int .i64 k', .int .i64 i', .int .i64 g', .float .f64 r', .string s', .slice ka' keys'.length kc', .slice a' kids'.len cap'] 26 (0, 0)) := by rw [hW]; exact set7 HBq.out _ _ _ _ _ _ _
  rw [← hW]
  clear hW c0 c1 c2 c3 c4 c5 c6 t0 t1 t2 t3 t4 t5 t6 t7 t8 a0 a1 a2 a3 a4 a5 a6 p0 p1 p2 p3 p4 p5 p6 b0 b1 b2 b3 b4 b5 b6 q0 q1 q2 q3 q4 q5 q6 e0 e1 e2 e3 e4 e5 e6
  have HXr := Lib.hid hXr; have HTr := Lib.hid hTr; have HAr := Lib.hid hAr; have HBr := Lib.hid hBr
  obtain ⟨⟨c0, c1, c2, c3, c4, c5, c6⟩, _⟩ := seven hXr
  obtain ⟨t0, t1, t2, t3, t4, t5, t6, t7, t8⟩ := nine hTr
  obtain ⟨⟨a0, a1, a2, a3, a4, a5, a6⟩, p0, p1, p2, p3, p4, p5, p6⟩ := seven hAr
  obtain ⟨⟨b0, b1, b2, b3, b4, b5, b6⟩, q0, q1, q2, q3, q4, q5, q6⟩ := seven hBr
  clear hXr hTr hAr hBr
  have hbz := lt_of_block HBr.out
  obtain ⟨o1, o2⟩ := hop
  have hop1 := HOP.out; clear HOP
  subst hop1
  have hcall : ∀ W', Kept [] W W' → Calls Tryz.prog 35 #[.agg #[.int .i64 8, .int .i64 i, .int .i64 g, .float .f64 r, .string s, .slice ka (Di.of L).keys.length kc, .slice (some ⟨b', o', none⟩) (Di.of L).kids.len cap], .string key] W' (DxE N (DropR (Di.of L) key) W') := fun W' hW' => by
    have hK5 := Kept.trans hKW hW' (Z := []) (by simp) (by simp)
    exact dictdrop L key i g r s N ka kc (some ⟨b', o', none⟩) cap W' HD.out ⟨HFL.out, HKE.out.kept hK5 (ltkB hN (by simp)), HKI.out.kept hK5 (ltkB hN (by simp))⟩ (Nat.le_trans hN hK5.size)
  have HC := Lib.hid hcall; clear hcall
  go_wp2_with fail
  have hS : ∀ W', Kept [w.heap.size + 1 + 1, w.heap.size + 1 + 1 + 1] W W' → W'.cell? ⟨w.heap.size, 0, none⟩ = some (.int .i64 8) ∧ W'.cell? ⟨w.heap.size, 1, none⟩ = some (.int .i64 i) ∧ W'.cell? ⟨w.heap.size, 2, none⟩ = some (.int .i64 g) ∧ W'.cell? ⟨w.heap.size, 3, none⟩ = some (.float .f64 r) ∧ W'.cell? ⟨w.heap.size, 4, none⟩ = some (.string s) ∧ W'.cell? ⟨w.heap.size, 5, none⟩ = some (.slice ka (Di.of L).keys.length kc) ∧ W'.cell? ⟨w.heap.size, 6, none⟩ = some (.slice (some ⟨b', o', none⟩) (Di.of L).kids.len cap) ∧ W'.cell? ⟨w.heap.size + 1, 1, none⟩ = some (.string key) := fun W' hW' => by
    have e1 : ∀ p, W'.cell? ⟨w.heap.size, p, none⟩ = W.cell? ⟨w.heap.size, p, none⟩ := fun p => hW'.cell (lt_of_block HXr.out) (by intro hm; first | (simp at hm; done) | (simp at hm; omega))
    have e2 : ∀ p, W'.cell? ⟨w.heap.size + 1, p, none⟩ = W.cell? ⟨w.heap.size + 1, p, none⟩ := fun p => hW'.cell (lt_of_block HTr.out) (by intro hm; first | (simp at hm; done) | (simp at hm; omega))
    exact ⟨(e1 _).trans c0, (e1 _).trans c1, (e1 _).trans c2, (e1 _).trans c3, (e1 _).trans c4, (e1 _).trans c5, (e1 _).trans c6, (e2 _).trans t1⟩
  have hZ : ∀ W', Kept [w.heap.size + 1 + 1] W W' → W'.cell? ⟨w.heap.size + 1 + 1 + 1, 0, none⟩ = some (.int .i64 k') ∧ W'.cell? ⟨w.heap.size + 1 + 1 + 1, 1, none⟩ = some (.int .i64 i') ∧ W'.cell? ⟨w.heap.size + 1 + 1 + 1, 2, none⟩ = some (.int .i64 g') ∧ W'.cell? ⟨w.heap.size + 1 + 1 + 1, 3, none⟩ = some (.float .f64 r') ∧ W'.cell? ⟨w.heap.size + 1 + 1 + 1, 4, none⟩ = some (.string s') ∧ W'.cell? ⟨w.heap.size + 1 + 1 + 1, 5, none⟩ = some (.slice ka' keys'.length kc') ∧ W'.cell? ⟨w.heap.size + 1 + 1 + 1, 6, none⟩ = some (.slice a' kids'.len cap') := fun W' hW' => by
    have e1 : ∀ p, W'.cell? ⟨w.heap.size + 1 + 1 + 1, p, none⟩ = W.cell? ⟨w.heap.size + 1 + 1 + 1, p, none⟩ := fun p => hW'.cell (lt_of_block HBr.out) (by intro hm; first | (simp at hm; done) | (simp at hm; omega))
    exact ⟨(e1 _).trans b0, (e1 _).trans b1, (e1 _).trans b2, (e1 _).trans b3, (e1 _).trans b4, (e1 _).trans b5, (e1 _).trans b6⟩
  have HS := Lib.hid hS; have HZ := Lib.hid hZ; clear hS hZ
  have hKs : Kept [w.heap.size + 1 + 1, w.heap.size + 1 + 1 + 1] W W := Kept.refl _ _
  have hKt : Kept [w.heap.size + 1 + 1] W W := Kept.refl _ _
  refine wp_region_noPanic ?_
  refine wp_region_T (C := fun W => W.cell? ⟨w.heap.size, 0, none⟩ = some (.int .i64 8) ∧ W.cell? ⟨w.heap.size, 1, none⟩ = some (.int .i64 i) ∧ W.cell? ⟨w.heap.size, 2, none⟩ = some (.int .i64 g) ∧ W.cell? ⟨w.heap.size, 3, none⟩ = some (.float .f64 r) ∧ W.cell? ⟨w.heap.size, 4, none⟩ = some (.string s) ∧ W.cell? ⟨w.heap.size, 5, none⟩ = some (.slice ka (Di.of L).keys.length kc) ∧ W.cell? ⟨w.heap.size, 6, none⟩ = some (.slice (some ⟨b', o', none⟩) (Di.of L).kids.len cap) ∧ W.cell? ⟨w.heap.size + 1, 1, none⟩ = some (.string key)) (D := fun W => W.cell? ⟨w.heap.size + 1 + 1 + 1, 0, none⟩ = some (.int .i64 k') ∧ W.cell? ⟨w.heap.size + 1 + 1 + 1, 1, none⟩ = some (.int .i64 i') ∧ W.cell? ⟨w.heap.size + 1 + 1 + 1, 2, none⟩ = some (.int .i64 g') ∧ W.cell? ⟨w.heap.size + 1 + 1 + 1, 3, none⟩ = some (.float .f64 r') ∧ W.cell? ⟨w.heap.size + 1 + 1 + 1, 4, none⟩ = some (.string s') ∧ W.cell? ⟨w.heap.size + 1 + 1 + 1, 5, none⟩ = some (.slice ka' keys'.length kc') ∧ W.cell? ⟨w.heap.size + 1 + 1 + 1, 6, none⟩ = some (.slice a' kids'.len cap')) (st := 9) (by kernel_rfl) ⟨HS.out _ (Kept.refl _ _).drew, fun _ => HZ.out _ (Kept.refl _ _).drew⟩ (fun hH => ?_)
  refine wpT_takeC (i := 0) (v := ?_) rfl (by kernel_rfl) (by kernel_rfl) (by kernel_rfl) (by kernel_rfl) (by kernel_rfl) (fun _ _ _ h => h) (Or.inl ⟨by rfl, ?_⟩) (by assumption) ?_
  rotate_left 1
  · intro W hSw
    (try dsimp only at hSw)
    go_simp
    (try with_reducible rfl)
  (try simp only [Act.put, List.getElem_toArray, List.getElem_cons_zero, List.setIfInBounds_toArray, List.set_cons_zero, List.set_cons_succ])
  refine wpT_takeC (i := 1) (v := ?_) rfl (by kernel_rfl) (by kernel_rfl) (by kernel_rfl) (by kernel_rfl) (by kernel_rfl) (fun _ _ _ h => h) (Or.inl ⟨by rfl, ?_⟩) (by assumption) ?_
  rotate_left 1
  · intro W hSw
    (try dsimp only at hSw)
    go_simp
    (try with_reducible rfl)
  (try simp only [Act.put, List.getElem_toArray, List.getElem_cons_succ, List.getElem_cons_zero, List.setIfInBounds_toArray, List.set_cons_zero, List.set_cons_succ])
  refine wpT_takeC (i := 2) (v := ?_) rfl (by kernel_rfl) (by kernel_rfl) (by kernel_rfl) (by kernel_rfl) (by kernel_rfl) (fun _ _ _ h => h) (Or.inl ⟨by rfl, ?_⟩) (by assumption) ?_
  rotate_left 1
  · intro W hSw
    (try dsimp only at hSw)
    go_simp
    (try with_reducible rfl)
  (try simp only [Act.put, List.getElem_toArray, List.getElem_cons_succ, List.getElem_cons_zero, List.setIfInBounds_toArray, List.set_cons_zero, List.set_cons_succ])
  refine wpT_takeC (i := 4) (v := ?_) rfl (by kernel_rfl) (by kernel_rfl) (by kernel_rfl) (by kernel_rfl) (by kernel_rfl) (fun _ _ _ h => h) (Or.inl ⟨by rfl, ?_⟩) (by assumption) ?_
  rotate_left 1
  · intro W hSw
    (try dsimp only at hSw)
    go_simp
    (try with_reducible rfl)
  (try simp only [Act.put, List.getElem_toArray, List.getElem_cons_succ, List.getElem_cons_zero, List.setIfInBounds_toArray, List.set_cons_zero, List.set_cons_succ])
  refine wpT_takeC (i := 5) (v := ?_) rfl (by kernel_rfl) (by kernel_rfl) (by kernel_rfl) (by kernel_rfl) (by kernel_rfl) (fun _ _ _ h => h) (Or.inl ⟨by rfl, ?_⟩) (by assumption) ?_
  rotate_left 1
  · intro W hSw
    (try dsimp only at hSw)
    go_simp
    (try with_reducible rfl)
  (try simp only [Act.put, List.getElem_toArray, List.getElem_cons_succ, List.getElem_cons_zero, List.setIfInBounds_toArray, List.set_cons_zero, List.set_cons_succ])
  refine wpT_takeD (i := 6) (v := ?_) rfl (by kernel_rfl) (by kernel_rfl) (by kernel_rfl) (by kernel_rfl) (by kernel_rfl) (fun _ _ _ h => h) (Or.inl ⟨by rfl, ?_⟩) (by assumption) ?_
  rotate_left 1
  · intro W hSw
    (try dsimp only at hSw)
    go_simp
    (try with_reducible rfl)
  (try simp only [Act.put, List.getElem_toArray, List.getElem_cons_succ, List.getElem_cons_zero, List.setIfInBounds_toArray, List.set_cons_zero, List.set_cons_succ])
  refine wpT_ready (rs := [3]) (by kernel_rfl) (by simp) ?_
  refine AllT.cons rfl (fun K hK => ?_) AllT.nil
  clear hH
  go_simp
  go_at_call 35
  refine (HC.out _ ((Kept.refl _ _).drew)).mono ?_
  rintro e w2 ⟨hK3', d9, ka9, kc9, a9, cap9, rfl, hnode', hput⟩
  have hK3 : Kept [] W w2 := Kept.trans (Kept.refl [] W).drew hK3' (by simp) (by simp)
  have HN := Lib.hid hnode'; have HP := Lib.hid hput; clear hnode' hput hK3' hKs hKt
  have hKs : Kept [w.heap.size + 1 + 1, w.heap.size + 1 + 1 + 1] W w2 := hK3.mono (by simp)
  have hKt : Kept [w.heap.size + 1 + 1] W w2 := hK3.mono (by simp)
  clear c0 c1 c2 c3 c4 c5 c6 t0 t1 t2 t3 t4 t5 t6 t7 t8 a0 a1 a2 a3 a4 a5 a6 p0 p1 p2 p3 p4 p5 p6 b0 b1 b2 b3 b4 b5 b6 q0 q1 q2 q3 q4 q5 q6
  have hX5 := (hK3.block w.heap.size (lt_of_block HXr.out) (by simp)).trans HXr.out
  have hT5 := (hK3.block (w.heap.size + 1) (lt_of_block HTr.out) (by simp)).trans HTr.out
  have hA5 := (hK3.block (w.heap.size + 1 + 1) (lt_of_block HAr.out) (by simp)).trans HAr.out
  have hB5 := (hK3.block (w.heap.size + 1 + 1 + 1) (lt_of_block HBr.out) (by simp)).trans HBr.out
  obtain ⟨⟨c0, c1, c2, c3, c4, c5, c6⟩, _⟩ := seven hX5
  obtain ⟨t0, t1, t2, t3, t4, t5, t6, t7, t8⟩ := nine hT5
  obtain ⟨⟨a0, a1, a2, a3, a4, a5, a6⟩, p0, p1, p2, p3, p4, p5, p6⟩ := seven hA5
  obtain ⟨⟨b0, b1, b2, b3, b4, b5, b6⟩, q0, q1, q2, q3, q4, q5, q6⟩ := seven hB5
  clear hX5 hT5 hA5 hB5
  (try go_wp2_with fail)
  refine hK.out _ _ ⟨HS.out _ (by repeat (first | with_reducible exact hKs | with_reducible exact Kept.refl _ _ | with_reducible refine Kept.drew ?_ | refine Kept.setCell ?_ (Or.inr (by simp)) _)), fun _ => HZ.out _ (by repeat (first | with_reducible exact hKt | with_reducible exact Kept.refl _ _ | with_reducible refine Kept.drew ?_ | refine Kept.setCell ?_ (Or.inr (by simp)) _))⟩ (fun hH => ?_)
  clear hK K
  (try simp only [Act.put, List.getElem_toArray, List.getElem_cons_succ, List.getElem_cons_zero, List.setIfInBounds_toArray, List.set_cons_zero, List.set_cons_succ])
  refine wpT_ready (rs := [7]) (by kernel_rfl) (by simp) ?_
  refine AllT.cons rfl (fun K hK => ?_) AllT.nil
  clear hH
  go_simp
  refine hK.out _ _ ⟨HS.out _ (by repeat (first | with_reducible exact hKs | with_reducible exact Kept.refl _ _ | with_reducible refine Kept.drew ?_ | refine Kept.setCell ?_ (Or.inr (by simp)) _)), fun _ => HZ.out _ (by repeat (first | with_reducible exact hKt | with_reducible exact Kept.refl _ _ | with_reducible refine Kept.drew ?_ | refine Kept.setCell ?_ (Or.inr (by simp)) _))⟩ (fun hH => ?_)
  clear hK K
  (try simp only [Act.put, List.getElem_toArray, List.getElem_cons_succ, List.getElem_cons_zero, List.setIfInBounds_toArray, List.set_cons_zero, List.set_cons_succ])
  refine wpT_takeC (i := 8) (v := ?_) rfl (by kernel_rfl) (by kernel_rfl) (by kernel_rfl) (by kernel_rfl) (by kernel_rfl) (fun _ _ _ h => h) (Or.inl ⟨by rfl, ?_⟩) (by assumption) ?_
  rotate_left 1
  · intro W hSw
    (try dsimp only at hSw)
    go_simp
    (try with_reducible rfl)
  (try simp only [Act.put, List.getElem_toArray, List.getElem_cons_succ, List.getElem_cons_zero, List.setIfInBounds_toArray, List.set_cons_zero, List.set_cons_succ])
  refine wpT_ready (rs := [9]) (by kernel_rfl) (by simp) ?_
  refine AllT.cons rfl (fun K hK => ?_) AllT.nil
  clear hH
  go_simp
  refine hK.out _ _ ⟨HS.out _ (by repeat (first | with_reducible exact hKs | with_reducible exact Kept.refl _ _ | with_reducible refine Kept.drew ?_ | refine Kept.setCell ?_ (Or.inr (by simp)) _)), fun h => absurd h (by decide)⟩ (fun hH => ?_)
  clear hK K
  (try simp only [Act.put, List.getElem_toArray, List.getElem_cons_succ, List.getElem_cons_zero, List.setIfInBounds_toArray, List.set_cons_zero, List.set_cons_succ])
  refine wpT_takeC (i := 10) (v := ?_) rfl (by kernel_rfl) (by kernel_rfl) (by kernel_rfl) (by kernel_rfl) (by kernel_rfl) (fun _ _ _ h => h) (Or.inl ⟨by rfl, ?_⟩) (by assumption) ?_
  rotate_left 1
  · intro W hSw
    (try dsimp only at hSw)
    go_simp
    (try with_reducible rfl)
  (try simp only [Act.put, List.getElem_toArray, List.getElem_cons_succ, List.getElem_cons_zero, List.setIfInBounds_toArray, List.set_cons_zero, List.set_cons_succ])
  refine wpT_done (by kernel_rfl) ?_ _
  refine NoPanic.normal ?_
  go_wp2_with fail
  have hKf := kept7 (b := w.heap.size + 1 + 1 + 1) (kept7 (b := w.heap.size + 1 + 1) (Kept.refl [w.heap.size + 1 + 1, w.heap.size + 1 + 1 + 1] w2) (.inr (by simp)) (.int .i64 8) (.int .i64 0) (.int .i64 0) (.float .f64 0) (.string ⟨#[]⟩) (.slice ka9 d9.keys.length kc9) (.slice a9 d9.kids.len cap9)) (.inr (by simp)) (.int .i64 k') (.int .i64 i') (.int .i64 g') (.float .f64 r') (.string s') (.slice ka' keys'.length kc') (.slice a' kids'.len cap')
  have hKw : Kept [] w w2 := Kept.trans hKW hK3 (by simp) (by simp)
  have hKe := kept7 (b := w.heap.size + 1 + 1 + 1) (kept7 (b := w.heap.size + 1 + 1) hKw (.inl (by omega)) (.int .i64 8) (.int .i64 0) (.int .i64 0) (.float .f64 0) (.string ⟨#[]⟩) (.slice ka9 d9.keys.length kc9) (.slice a9 d9.kids.len cap9)) (.inl (by omega)) (.int .i64 k') (.int .i64 i') (.int .i64 g') (.float .f64 r') (.string s') (.slice ka' keys'.length kc') (.slice a' kids'.len cap')
  have hoff1 : ∀ n : Nat, (⟨w.heap.size + 1 + 1, 0, none⟩ : Addr).add n = ⟨w.heap.size + 1 + 1, n, none⟩ := fun n => addr0 _ _
  have hoff2 : ∀ n : Nat, (⟨w.heap.size + 1 + 1 + 1, 0, none⟩ : Addr).add n = ⟨w.heap.size + 1 + 1 + 1, n, none⟩ := fun n => addr0 _ _
  refine bodyPost_ret (v := .tuple #[.agg #[.int .i64 8, .int .i64 0, .int .i64 0, .float .f64 0, .string ⟨#[]⟩, .slice ka9 d9.keys.length kc9, .slice a9 d9.kids.len cap9], .bool true, (.agg #[.int .i64 k',.int .i64 i',.int .i64 g',.float .f64 r',.string s',.slice ka' keys'.length kc',.slice a' kids'.len cap']), .bool true]) (by simp [results, Tryz.results17, go_sem, hoff1, hoff2, a0, a1, a2, a3, a4, a5, a6, b0, b1, b2, b3, b4, b5, b6]) rfl ?_
  refine ⟨hKe, 0, 0, 0, ⟨#[]⟩, d9, ka9, kc9, a9, cap9, true, ⟨k', i', g', r', s', keys', kids'⟩, ka', kc', a', cap', true, rfl, fun _ => ⟨⟨rfl, rfl, feq00, rfl⟩, fr_kept hKW hKf (fun x hx => ?_) (Nat.le_trans hN hKw.size) HN.out, lt_kept hKe hN HNV.out, .del rfl HVA.out HP.out⟩⟩
  simp at hx
  omega
end Go.Proofs.YtfkecmlmnhbmoaaGreatDoor
namespace Go.Proofs.YtfkecmlmnhbmoaaGreatDoor
open Go.RowKit Go.Maps
set_option maxRecDepth 100000 in
set_option maxHeartbeats 8000000 in
theorem do_inc2 (L : List (ByteArray × Nd)) (op : Int) (key : ByteArray) (y : Nd) (i g : Int) (r : Nat) (s : ByteArray) (N : Bd) (ka : Option Addr) (kc : Nat) (a : Option Addr) (cap : Nat) (kb : Option Addr) (kd : Nat) (ab : Option Addr) (capb : Nat) (w : World) (hd : DiOk (Di.of L)) (hz : Z4 i g r s) (hn : Node (LtB N) w 8 i g r s (Di.of L).keys (Di.of L).kids ka kc a cap)
    (hy : Node (LtB N) w y.k y.i y.g y.r y.s y.keys y.kids kb kd ab capb) (hN : N.n ≤ w.heap.size) (hky : Simp key) (hyo : NdOk y) (hop : I64 op) (hlb : L.length ≤ 1000000000000) (hop1 : op = 6) (hin : key ∈ (Di.of L).keys) (v6 : Nd) (hv6 : (Di.of L).At key v6) (hk6 : v6.k = 2) :
    Calls Tryz.prog 17 #[.agg #[.int .i64 8, .int .i64 i, .int .i64 g, .float .f64 r, .string s, .slice ka (Di.of L).keys.length kc, .slice a (Di.of L).kids.len cap], .agg #[.int .i64 op, .string key, .int .i64 y.k, .int .i64 y.i, .int .i64 y.g, .float .f64 y.r, .string y.s, .slice kb y.keys.length kd, .slice ab y.kids.len capb]] w (DoE N (Di.of L) op key y w) := by
  have HOP := Lib.hid hop1; clear hop1
  have HK6 := Lib.hid hk6; clear hk6
  have HV6 := Lib.hid hv6; clear hv6
  obtain ⟨⟨⟨k1, k2⟩, ⟨i1, i2⟩, ⟨g1, g2⟩, r1, s1⟩, hkeys, hkids⟩ := hn
  have hkl : (Di.of L).keys.length = L.length := by simp [Di.of]
  have hil : (Di.of L).kids.len = L.length := by simp [Di.of, F.of_len]
  obtain ⟨w0, hw0⟩ : ∃ w0, w0 = (((w.alloc (.cells #[.int .i64 8, .int .i64 i, .int .i64 g, .float .f64 r, .string s, .slice ka (Di.of L).keys.length kc, .slice a (Di.of L).kids.len cap] 26)).alloc (.cells #[.int .i64 op, .string key, .int .i64 y.k, .int .i64 y.i, .int .i64 y.g, .float .f64 y.r, .string y.s, .slice kb y.keys.length kd, .slice ab y.kids.len capb] 45)).alloc (.cells #[.int .i64 0, .int .i64 0, .int .i64 0, .float .f64 0, .string ⟨#[]⟩, .slice none 0 0, .slice none 0 0] 26)).alloc (.cells #[.int .i64 0, .int .i64 0, .int .i64 0, .float .f64 0, .string ⟨#[]⟩, .slice none 0 0, .slice none 0 0] 26) := ⟨_, rfl⟩
  have hK0 : Kept [] w w0 := by rw [hw0]; exact ((((Kept.refl [] w).alloc _).alloc _).alloc _).alloc _
  have hX : w0.heap[w.heap.size]? = some (.cells #[.int .i64 8, .int .i64 i, .int .i64 g, .float .f64 r, .string s, .slice ka (Di.of L).keys.length kc, .slice a (Di.of L).kids.len cap] 26 (0, 0)) := by rw [hw0, heap_lt (by simp; omega), heap_lt (by simp; omega), heap_lt (by simp)]; exact heap_at rfl
  have hT : w0.heap[w.heap.size + 1]? = some (.cells #[.int .i64 op, .string key, .int .i64 y.k, .int .i64 y.i, .int .i64 y.g, .float .f64 y.r, .string y.s, .slice kb y.keys.length kd, .slice ab y.kids.len capb] 45 (0, 0)) := by rw [hw0, heap_lt (by simp), heap_lt (by simp)]; exact heap_at (by simp)
  have hA : w0.heap[w.heap.size + 1 + 1]? = some (.cells #[.int .i64 0, .int .i64 0, .int .i64 0, .float .f64 0, .string ⟨#[]⟩, .slice none 0 0, .slice none 0 0] 26 (0, 0)) := by rw [hw0, heap_lt (by simp)]; exact heap_at (by simp)
  have hB : w0.heap[w.heap.size + 1 + 1 + 1]? = some (.cells #[.int .i64 0, .int .i64 0, .int .i64 0, .float .f64 0, .string ⟨#[]⟩, .slice none 0 0, .slice none 0 0] 26 (0, 0)) := by rw [hw0]; exact heap_at (by simp)
  have hkeys0 := hkeys.kept hK0 (ltkB hN (by simp))
  have hkids0 := hkids.kept hK0 (ltkB hN (by simp))
  have hfind := dictfind key 8 i g r s (Di.of L).keys (Di.of L).kids N ka kc a cap w0 ⟨⟨⟨k1, k2⟩, ⟨i1, i2⟩, ⟨g1, g2⟩, r1, s1⟩, hkeys0, hkids0⟩ (Nat.le_trans hN hK0.size)
  have hfld : Fld 8 i g r s := ⟨⟨k1, k2⟩, ⟨i1, i2⟩, ⟨g1, g2⟩, r1, s1⟩
  obtain ⟨⟨c0, c1, c2, c3, c4, c5, c6⟩, _⟩ := seven hX
  obtain ⟨t0, t1, t2, t3, t4, t5, t6, t7, t8⟩ := nine hT
  have HX := Lib.hid hX; have HT := Lib.hid hT; have HA := Lib.hid hA; have HB := Lib.hid hB; have HKE := Lib.hid hkeys; have HKI := Lib.hid hkids; have HKI0 := Lib.hid hkids0; have HY := Lib.hid hy; have HF := Lib.hid hfind; have HFL := Lib.hid hfld; have HD := Lib.hid hd; have HKY := Lib.hid hky; have HYO := Lib.hid hyo; have HZ4 := Lib.hid hz; have HKL := Lib.hid hkl; have HIL := Lib.hid hil
  clear hX hT hA hB hkeys hkids hkeys0 hkids0 hy hfind hfld hd hky hyo hz hkl hil
  go_enter Tryz.func17, Tryz.ntmps17
  go_upto_region 1 with fail
  rw [← hw0]
  clear hw0
  go_wp2_with fail
  refine HF.out.mono ?_
  rintro e w1 ⟨hK1, p, rfl, hp⟩
  have hK2 : Kept [] w w1 := Kept.trans hK0 hK1 (by simp) (by simp)
  have hXr := (hK1.block w.heap.size (lt_of_block HX.out) (by simp)).trans HX.out
  have hTr := (hK1.block (w.heap.size + 1) (lt_of_block HT.out) (by simp)).trans HT.out
  have hAr := (hK1.block (w.heap.size + 1 + 1) (lt_of_block HA.out) (by simp)).trans HA.out
  have hBr := (hK1.block (w.heap.size + 1 + 1 + 1) (lt_of_block HB.out) (by simp)).trans HB.out
  clear c0 c1 c2 c3 c4 c5 c6 t0 t1 t2 t3 t4 t5 t6 t7 t8
  rcases hp with ⟨rfl, hno⟩ | ⟨j, rfl, hat, hmin⟩
  case' inl => exact absurd hin hno
  obtain ⟨hjl, hje⟩ := List.getElem?_eq_some_iff.1 hat
  rw [HKL.out] at hjl
  have hkey : (L[j]).1 = key := by rw [← hje]; simp [Di.of]
  obtain ⟨b', o', k', i', g', r', s', keys', kids', ka', kc', a', cap', rfl, hbN', hdr, hcs, hnode⟩ := HKI.out.at (j := j) (by rw [HIL.out]; exact hjl)
  have hpj := Di.of_kid hjl hdr
  have hvat : (Di.of L).At key ⟨k', i', g', r', s', keys', kids'⟩ := Di.of_at.2 (by rw [← hkey, ← hpj]; exact List.getElem_mem hjl)
  rw [Nat.mul_comm 7 j] at hcs
  have hbl : b' < N.n := hbN'.1
  have hcc : ∀ p, w1.cell? ⟨b', p, none⟩ = w.cell? ⟨b', p, none⟩ := fun p => hK2.cell (by omega) (by simp)
  obtain ⟨e0, e1, e2, e3, e4, e5, e6⟩ := hcs
  rw [← hcc] at e0 e1 e2 e3 e4 e5 e6
  have hjl2 : (j : Int) < ((Di.of L).kids.len : Int) := by rw [HIL.out]; omega
  have hj0 : (0 : Int) ≤ (j : Int) := Int.natCast_nonneg _
  have hjn : ((j : Int) < 0) = False := by simp
  have HXq := Lib.hid hXr; have HTq := Lib.hid hTr; have HAq := Lib.hid hAr; have HBq := Lib.hid hBr; have HVA := Lib.hid hvat; have HNV := Lib.hid hnode
  obtain ⟨⟨c0, c1, c2, c3, c4, c5, c6⟩, _⟩ := seven hXr
  obtain ⟨t0, t1, t2, t3, t4, t5, t6, t7, t8⟩ := nine hTr
  obtain ⟨⟨a0, a1, a2, a3, a4, a5, a6⟩, p0, p1, p2, p3, p4, p5, p6⟩ := seven hAr
  obtain ⟨⟨b0, b1, b2, b3, b4, b5, b6⟩, q0, q1, q2, q3, q4, q5, q6⟩ := seven hBr
  clear hXr hTr hAr hBr hvat hnode hpj hkey hje hat hmin hin hdr hcc
  go_upto_region 4 with fail
  obtain ⟨W, hW⟩ : ∃ W, W = ((((((w1.setCell ⟨w.heap.size + 1 + 1 + 1, 0, none⟩ (.int .i64 k')).setCell ⟨w.heap.size + 1 + 1 + 1, 1, none⟩ (.int .i64 i')).setCell ⟨w.heap.size + 1 + 1 + 1, 2, none⟩ (.int .i64 g')).setCell ⟨w.heap.size + 1 + 1 + 1, 3, none⟩ (.float .f64 r')).setCell ⟨w.heap.size + 1 + 1 + 1, 4, none⟩ (.string s')).setCell ⟨w.heap.size + 1 + 1 + 1, 5, none⟩ (.slice ka' keys'.length kc')).setCell ⟨w.heap.size + 1 + 1 + 1, 6, none⟩ (.slice a' kids'.len cap') := ⟨_, rfl⟩
  have hbz1 := lt_of_block HBq.out
  have hk1 : Kept [w.heap.size + 1 + 1 + 1] w1 W := by rw [hW]; exact kept7 (Kept.refl _ _) (.inr (by simp)) _ _ _ _ _ _ _
  have hKW : Kept [] w W := by rw [hW]; exact kept7 hK2 (.inl (by omega)) _ _ _ _ _ _ _
  have hXr := (hk1.block w.heap.size (lt_of_block HXq.out) (by simp only [List.mem_singleton]; omega)).trans HXq.out
  have hTr := (hk1.block (w.heap.size + 1) (lt_of_block HTq.out) (by simp only [List.mem_singleton]; omega)).trans HTq.out
  have hAr := (hk1.block (w.heap.size + 1 + 1) (lt_of_block HAq.out) (by simp only [List.mem_singleton]; omega)).trans HAq.out
  have hBr : W.heap[w.heap.size + 1 + 1 + 1]? = some (.cells #[.int .i64 k', .int .i64 i', .int .i64 g', .float .f64 r', .string s', .slice ka' keys'.length kc', .slice a' kids'.len cap'] 26 (0, 0)) := by rw [hW]; exact set7 HBq.out _ _ _ _ _ _ _
  rw [← hW]
  clear hW c0 c1 c2 c3 c4 c5 c6 t0 t1 t2 t3 t4 t5 t6 t7 t8 a0 a1 a2 a3 a4 a5 a6 p0 p1 p2 p3 p4 p5 p6 b0 b1 b2 b3 b4 b5 b6 q0 q1 q2 q3 q4 q5 q6 e0 e1 e2 e3 e4 e5 e6
  have HXr := Lib.hid hXr; have HTr := Lib.hid hTr; have HAr := Lib.hid hAr; have HBr := Lib.hid hBr
  obtain ⟨⟨c0, c1, c2, c3, c4, c5, c6⟩, _⟩ := seven hXr
  obtain ⟨t0, t1, t2, t3, t4, t5, t6, t7, t8⟩ := nine hTr
  obtain ⟨⟨a0, a1, a2, a3, a4, a5, a6⟩, p0, p1, p2, p3, p4, p5, p6⟩ := seven hAr
  obtain ⟨⟨b0, b1, b2, b3, b4, b5, b6⟩, q0, q1, q2, q3, q4, q5, q6⟩ := seven hBr
  clear hXr hTr hAr hBr
  have hbz := lt_of_block HBr.out
  obtain ⟨o1, o2⟩ := hop
  have hop1 := HOP.out; clear HOP
  subst hop1
  have hk2 : k' = 2 := by have := HD.out.one HVA.out HV6.out; rw [← HK6.out, ← this]
  subst hk2
  have hK36 : ∀ (n : Int) W', Kept [] W W' → Calls Tryz.prog 36 #[.int .i64 n] W' (fun e w' => Kept [] W' w' ∧ e = .returned (.agg #[.int .i64 2, .int .i64 n, .int .i64 0, .float .f64 0, .string ⟨#[]⟩, .slice none 0 0, .slice none 0 0])) := fun n W' _ => integer n W'
  have HC := Lib.hid hK36; clear hK36
  go_wp2_with fail
  have hS : ∀ W', Kept [w.heap.size + 1 + 1, w.heap.size + 1 + 1 + 1] W W' → W'.cell? ⟨w.heap.size, 0, none⟩ = some (.int .i64 8) ∧ W'.cell? ⟨w.heap.size, 1, none⟩ = some (.int .i64 i) ∧ W'.cell? ⟨w.heap.size, 2, none⟩ = some (.int .i64 g) ∧ W'.cell? ⟨w.heap.size, 3, none⟩ = some (.float .f64 r) ∧ W'.cell? ⟨w.heap.size, 4, none⟩ = some (.string s) ∧ W'.cell? ⟨w.heap.size, 5, none⟩ = some (.slice ka (Di.of L).keys.length kc) ∧ W'.cell? ⟨w.heap.size, 6, none⟩ = some (.slice (some ⟨b', o', none⟩) (Di.of L).kids.len cap) ∧ W'.cell? ⟨w.heap.size + 1, 1, none⟩ = some (.string key) ∧ W'.cell? ⟨w.heap.size + 1, 3, none⟩ = some (.int .i64 y.i) := fun W' hW' => by
    have e1 : ∀ p, W'.cell? ⟨w.heap.size, p, none⟩ = W.cell? ⟨w.heap.size, p, none⟩ := fun p => hW'.cell (lt_of_block HXr.out) (by intro hm; first | (simp at hm; done) | (simp at hm; omega))
    have e2 : ∀ p, W'.cell? ⟨w.heap.size + 1, p, none⟩ = W.cell? ⟨w.heap.size + 1, p, none⟩ := fun p => hW'.cell (lt_of_block HTr.out) (by intro hm; first | (simp at hm; done) | (simp at hm; omega))
    exact ⟨(e1 _).trans c0, (e1 _).trans c1, (e1 _).trans c2, (e1 _).trans c3, (e1 _).trans c4, (e1 _).trans c5, (e1 _).trans c6, (e2 _).trans t1, (e2 _).trans t3⟩
  have hZ : ∀ W', Kept [w.heap.size + 1 + 1] W W' → W'.cell? ⟨w.heap.size + 1 + 1 + 1, 1, none⟩ = some (.int .i64 i') := fun W' hW' => by
    have e1 : ∀ p, W'.cell? ⟨w.heap.size + 1 + 1 + 1, p, none⟩ = W.cell? ⟨w.heap.size + 1 + 1 + 1, p, none⟩ := fun p => hW'.cell (lt_of_block HBr.out) (by intro hm; first | (simp at hm; done) | (simp at hm; omega))
    exact (e1 _).trans b1
  have HS := Lib.hid hS; have HZ := Lib.hid hZ; clear hS hZ
  have hKs : Kept [w.heap.size + 1 + 1, w.heap.size + 1 + 1 + 1] W W := Kept.refl _ _
  have hKt : Kept [w.heap.size + 1 + 1] W W := Kept.refl _ _
  refine wp_region_noPanic ?_
  refine wp_region_T (C := fun W => W.cell? ⟨w.heap.size, 0, none⟩ = some (.int .i64 8) ∧ W.cell? ⟨w.heap.size, 1, none⟩ = some (.int .i64 i) ∧ W.cell? ⟨w.heap.size, 2, none⟩ = some (.int .i64 g) ∧ W.cell? ⟨w.heap.size, 3, none⟩ = some (.float .f64 r) ∧ W.cell? ⟨w.heap.size, 4, none⟩ = some (.string s) ∧ W.cell? ⟨w.heap.size, 5, none⟩ = some (.slice ka (Di.of L).keys.length kc) ∧ W.cell? ⟨w.heap.size, 6, none⟩ = some (.slice (some ⟨b', o', none⟩) (Di.of L).kids.len cap) ∧ W.cell? ⟨w.heap.size + 1, 1, none⟩ = some (.string key) ∧ W.cell? ⟨w.heap.size + 1, 3, none⟩ = some (.int .i64 y.i)) (D := fun W => W.cell? ⟨w.heap.size + 1 + 1 + 1, 1, none⟩ = some (.int .i64 i')) (st := 14) (by kernel_rfl) ⟨HS.out _ (Kept.refl _ _).drew, fun _ => HZ.out _ (Kept.refl _ _).drew⟩ (fun hH => ?_)
  refine wpT_takeC (i := 0) (v := ?_) rfl (by kernel_rfl) (by kernel_rfl) (by kernel_rfl) (by kernel_rfl) (by kernel_rfl) (fun _ _ _ h => h) (Or.inl ⟨by rfl, ?_⟩) (by assumption) ?_
  rotate_left 1
  · intro W hSw
    (try dsimp only at hSw)
    go_simp
    (try with_reducible rfl)
  (try simp only [Act.put, List.getElem_toArray, List.getElem_cons_zero, List.setIfInBounds_toArray, List.set_cons_zero, List.set_cons_succ])
  refine wpT_takeC (i := 1) (v := ?_) rfl (by kernel_rfl) (by kernel_rfl) (by kernel_rfl) (by kernel_rfl) (by kernel_rfl) (fun _ _ _ h => h) (Or.inl ⟨by rfl, ?_⟩) (by assumption) ?_
  rotate_left 1
  · intro W hSw
    (try dsimp only at hSw)
    go_simp
    (try with_reducible rfl)
  (try simp only [Act.put, List.getElem_toArray, List.getElem_cons_succ, List.getElem_cons_zero, List.setIfInBounds_toArray, List.set_cons_zero, List.set_cons_succ])
  refine wpT_takeC (i := 2) (v := ?_) rfl (by kernel_rfl) (by kernel_rfl) (by kernel_rfl) (by kernel_rfl) (by kernel_rfl) (fun _ _ _ h => h) (Or.inl ⟨by rfl, ?_⟩) (by assumption) ?_
  rotate_left 1
  · intro W hSw
    (try dsimp only at hSw)
    go_simp
    (try with_reducible rfl)
  (try simp only [Act.put, List.getElem_toArray, List.getElem_cons_succ, List.getElem_cons_zero, List.setIfInBounds_toArray, List.set_cons_zero, List.set_cons_succ])
  refine wpT_takeC (i := 3) (v := ?_) rfl (by kernel_rfl) (by kernel_rfl) (by kernel_rfl) (by kernel_rfl) (by kernel_rfl) (fun _ _ _ h => h) (Or.inl ⟨by rfl, ?_⟩) (by assumption) ?_
  rotate_left 1
  · intro W hSw
    (try dsimp only at hSw)
    go_simp
    (try with_reducible rfl)
  (try simp only [Act.put, List.getElem_toArray, List.getElem_cons_succ, List.getElem_cons_zero, List.setIfInBounds_toArray, List.set_cons_zero, List.set_cons_succ])
  refine wpT_takeD (i := 4) (v := ?_) rfl (by kernel_rfl) (by kernel_rfl) (by kernel_rfl) (by kernel_rfl) (by kernel_rfl) (fun _ _ _ h => h) (Or.inl ⟨by rfl, ?_⟩) (by assumption) ?_
  rotate_left 1
  · intro W hSw
    (try dsimp only at hSw)
    go_simp
    (try with_reducible rfl)
  (try simp only [Act.put, List.getElem_toArray, List.getElem_cons_succ, List.getElem_cons_zero, List.setIfInBounds_toArray, List.set_cons_zero, List.set_cons_succ])
  refine wpT_takeC (i := 5) (v := ?_) rfl (by kernel_rfl) (by kernel_rfl) (by kernel_rfl) (by kernel_rfl) (by kernel_rfl) (fun _ _ _ h => h) (Or.inl ⟨by rfl, ?_⟩) (by assumption) ?_
  rotate_left 1
  · intro W hSw
    (try dsimp only at hSw)
    go_simp
    (try with_reducible rfl)
  (try simp only [Act.put, List.getElem_toArray, List.getElem_cons_succ, List.getElem_cons_zero, List.setIfInBounds_toArray, List.set_cons_zero, List.set_cons_succ])
  refine wpT_takeC (i := 6) (v := ?_) rfl (by kernel_rfl) (by kernel_rfl) (by kernel_rfl) (by kernel_rfl) (by kernel_rfl) (fun _ _ _ h => h) (Or.inl ⟨by rfl, ?_⟩) (by assumption) ?_
  rotate_left 1
  · intro W hSw
    (try dsimp only at hSw)
    go_simp
    (try with_reducible rfl)
  (try simp only [Act.put, List.getElem_toArray, List.getElem_cons_succ, List.getElem_cons_zero, List.setIfInBounds_toArray, List.set_cons_zero, List.set_cons_succ])
  refine wpT_takeC (i := 7) (v := ?_) rfl (by kernel_rfl) (by kernel_rfl) (by kernel_rfl) (by kernel_rfl) (by kernel_rfl) (fun _ _ _ h => h) (Or.inl ⟨by rfl, ?_⟩) (by assumption) ?_
  rotate_left 1
  · intro W hSw
    (try dsimp only at hSw)
    go_simp
    (try with_reducible rfl)
  (try simp only [Act.put, List.getElem_toArray, List.getElem_cons_succ, List.getElem_cons_zero, List.setIfInBounds_toArray, List.set_cons_zero, List.set_cons_succ])
  obtain ⟨n, hn⟩ : ∃ n, n = wrap64 (i' + y.i) := ⟨_, rfl⟩
  have hI : I64 n := by rw [hn]; exact wrap64_i64 _
  have HNN := Lib.hid hn; have HI := Lib.hid hI; clear hn hI
  refine wpT_takeC (i := 8) (v := .int .i64 n) rfl (by kernel_rfl) (by kernel_rfl) (by kernel_rfl) (by kernel_rfl) (by kernel_rfl) (fun _ _ _ h => h) (Or.inl ⟨by rfl, ?_⟩) (by assumption) ?_
  · intro W hSw
    clear hSw
    go_simp
    rw [HNN.out]
    exact wrap_is _
  (try simp only [Act.put, List.getElem_toArray, List.getElem_cons_succ, List.getElem_cons_zero, List.setIfInBounds_toArray, List.set_cons_zero, List.set_cons_succ])
  refine wpT_takeC (i := 11) (v := ?_) rfl (by kernel_rfl) (by kernel_rfl) (by kernel_rfl) (by kernel_rfl) (by kernel_rfl) (fun _ _ _ h => h) (Or.inl ⟨by rfl, ?_⟩) (by assumption) ?_
  rotate_left 1
  · intro W hSw
    (try dsimp only at hSw)
    go_simp
    (try with_reducible rfl)
  (try simp only [Act.put, List.getElem_toArray, List.getElem_cons_succ, List.getElem_cons_zero, List.setIfInBounds_toArray, List.set_cons_zero, List.set_cons_succ])
  refine wpT_ready (rs := [9]) (by kernel_rfl) (by simp) ?_
  refine AllT.cons rfl (fun K hK => ?_) AllT.nil
  clear hH
  go_simp
  go_at_call 36
  refine (HC.out _ _ ((Kept.refl _ _).drew)).mono ?_
  rintro e w3 ⟨hK3', rfl⟩
  have hK33 : Kept [] W w3 := Kept.trans (Kept.refl [] W).drew hK3' (by simp) (by simp)
  clear hKs hKt hK3'
  have hKs : Kept [w.heap.size + 1 + 1, w.heap.size + 1 + 1 + 1] W w3 := hK33.mono (by simp)
  have hKt : Kept [w.heap.size + 1 + 1] W w3 := hK33.mono (by simp)
  (try go_wp2_with fail)
  refine hK.out _ _ ⟨HS.out _ (by repeat (first | with_reducible exact hKs | with_reducible exact Kept.refl _ _ | with_reducible refine Kept.drew ?_ | refine Kept.setCell ?_ (Or.inr (by simp)) _)), fun _ => HZ.out _ (by repeat (first | with_reducible exact hKt | with_reducible exact Kept.refl _ _ | with_reducible refine Kept.drew ?_ | refine Kept.setCell ?_ (Or.inr (by simp)) _))⟩ (fun hH => ?_)
  clear hK K
  (try simp only [Act.put, List.getElem_toArray, List.getElem_cons_succ, List.getElem_cons_zero, List.setIfInBounds_toArray, List.set_cons_zero, List.set_cons_succ])
  refine wpT_ready (rs := [10]) (by kernel_rfl) (by simp) ?_
  refine AllT.cons rfl (fun K hK => ?_) AllT.nil
  clear hH
  go_simp
  go_at_call 34
  have hK5 : Kept [] w w3 := Kept.trans hKW hK33 (by simp) (by simp)
  have hfi : Fld 2 n 0 0 ⟨#[]⟩ := ⟨⟨by decide, by decide⟩, HI.out, ⟨by decide, by decide⟩, by decide, by decide⟩
  refine (dictput L key (Nd.int n) i g r s N ka kc (some ⟨b', o', none⟩) cap none 0 none 0 w3 HD.out ⟨HFL.out, HKE.out.kept hK5 (ltkB hN (by simp)), HKI.out.kept hK5 (ltkB hN (by simp))⟩ (leafNode hfi) (Nat.le_trans hN hK5.size) HKY.out (ok_int HI.out) hlb).mono ?_
  rintro e w2 ⟨hK3', d9, ka9, kc9, a9, cap9, rfl, hnode', hput⟩
  have hK3 : Kept [] W w2 := Kept.trans hK33 hK3' (by simp) (by simp)
  have HN := Lib.hid hnode'; have HP := Lib.hid hput; clear hnode' hput hK3' hKs hKt
  have hKs : Kept [w.heap.size + 1 + 1, w.heap.size + 1 + 1 + 1] W w2 := hK3.mono (by simp)
  have hKt : Kept [w.heap.size + 1 + 1] W w2 := hK3.mono (by simp)
  clear c0 c1 c2 c3 c4 c5 c6 t0 t1 t2 t3 t4 t5 t6 t7 t8 a0 a1 a2 a3 a4 a5 a6 p0 p1 p2 p3 p4 p5 p6 b0 b1 b2 b3 b4 b5 b6 q0 q1 q2 q3 q4 q5 q6
  have hX5 := (hK3.block w.heap.size (lt_of_block HXr.out) (by simp)).trans HXr.out
  have hT5 := (hK3.block (w.heap.size + 1) (lt_of_block HTr.out) (by simp)).trans HTr.out
  have hA5 := (hK3.block (w.heap.size + 1 + 1) (lt_of_block HAr.out) (by simp)).trans HAr.out
  have hB5 := (hK3.block (w.heap.size + 1 + 1 + 1) (lt_of_block HBr.out) (by simp)).trans HBr.out
  obtain ⟨⟨c0, c1, c2, c3, c4, c5, c6⟩, _⟩ := seven hX5
  obtain ⟨t0, t1, t2, t3, t4, t5, t6, t7, t8⟩ := nine hT5
  obtain ⟨⟨a0, a1, a2, a3, a4, a5, a6⟩, p0, p1, p2, p3, p4, p5, p6⟩ := seven hA5
  obtain ⟨⟨b0, b1, b2, b3, b4, b5, b6⟩, q0, q1, q2, q3, q4, q5, q6⟩ := seven hB5
  clear hX5 hT5 hA5 hB5
  (try go_wp2_with fail)
  refine hK.out _ _ ⟨HS.out _ (by repeat (first | with_reducible exact hKs | with_reducible exact Kept.refl _ _ | with_reducible refine Kept.drew ?_ | refine Kept.setCell ?_ (Or.inr (by simp)) _)), fun _ => HZ.out _ (by repeat (first | with_reducible exact hKt | with_reducible exact Kept.refl _ _ | with_reducible refine Kept.drew ?_ | refine Kept.setCell ?_ (Or.inr (by simp)) _))⟩ (fun hH => ?_)
  clear hK K
  (try simp only [Act.put, List.getElem_toArray, List.getElem_cons_succ, List.getElem_cons_zero, List.setIfInBounds_toArray, List.set_cons_zero, List.set_cons_succ])
  refine wpT_ready (rs := [12]) (by kernel_rfl) (by simp) ?_
  refine AllT.cons rfl (fun K hK => ?_) AllT.nil
  clear hH
  go_simp
  refine hK.out _ _ ⟨HS.out _ (by repeat (first | with_reducible exact hKs | with_reducible exact Kept.refl _ _ | with_reducible refine Kept.drew ?_ | refine Kept.setCell ?_ (Or.inr (by simp)) _)), fun _ => HZ.out _ (by repeat (first | with_reducible exact hKt | with_reducible exact Kept.refl _ _ | with_reducible refine Kept.drew ?_ | refine Kept.setCell ?_ (Or.inr (by simp)) _))⟩ (fun hH => ?_)
  clear hK K
  (try simp only [Act.put, List.getElem_toArray, List.getElem_cons_succ, List.getElem_cons_zero, List.setIfInBounds_toArray, List.set_cons_zero, List.set_cons_succ])
  refine wpT_takeC (i := 13) (v := ?_) rfl (by kernel_rfl) (by kernel_rfl) (by kernel_rfl) (by kernel_rfl) (by kernel_rfl) (fun _ _ _ h => h) (Or.inl ⟨by rfl, ?_⟩) (by assumption) ?_
  rotate_left 1
  · intro W hSw
    (try dsimp only at hSw)
    go_simp
    (try with_reducible rfl)
  (try simp only [Act.put, List.getElem_toArray, List.getElem_cons_succ, List.getElem_cons_zero, List.setIfInBounds_toArray, List.set_cons_zero, List.set_cons_succ])
  refine wpT_ready (rs := [14]) (by kernel_rfl) (by simp) ?_
  refine AllT.cons rfl (fun K hK => ?_) AllT.nil
  clear hH
  go_simp
  refine hK.out _ _ ⟨HS.out _ (by repeat (first | with_reducible exact hKs | with_reducible exact Kept.refl _ _ | with_reducible refine Kept.drew ?_ | refine Kept.setCell ?_ (Or.inr (by simp)) _)), fun h => absurd h (by decide)⟩ (fun hH => ?_)
  clear hK K
  (try simp only [Act.put, List.getElem_toArray, List.getElem_cons_succ, List.getElem_cons_zero, List.setIfInBounds_toArray, List.set_cons_zero, List.set_cons_succ])
  refine wpT_takeC (i := 15) (v := ?_) rfl (by kernel_rfl) (by kernel_rfl) (by kernel_rfl) (by kernel_rfl) (by kernel_rfl) (fun _ _ _ h => h) (Or.inl ⟨by rfl, ?_⟩) (by assumption) ?_
  rotate_left 1
  · intro W hSw
    (try dsimp only at hSw)
    go_simp
    (try with_reducible rfl)
  (try simp only [Act.put, List.getElem_toArray, List.getElem_cons_succ, List.getElem_cons_zero, List.setIfInBounds_toArray, List.set_cons_zero, List.set_cons_succ])
  refine wpT_done (by kernel_rfl) ?_ _
  refine NoPanic.normal ?_
  go_wp2_with fail
  have hKf := kept7 (b := w.heap.size + 1 + 1 + 1) (kept7 (b := w.heap.size + 1 + 1) (Kept.refl [w.heap.size + 1 + 1, w.heap.size + 1 + 1 + 1] w2) (.inr (by simp)) (.int .i64 8) (.int .i64 0) (.int .i64 0) (.float .f64 0) (.string ⟨#[]⟩) (.slice ka9 d9.keys.length kc9) (.slice a9 d9.kids.len cap9)) (.inr (by simp)) (.int .i64 0) (.int .i64 0) (.int .i64 0) (.float .f64 0) (.string ⟨#[]⟩) (.slice none 0 0) (.slice none 0 0)
  have hKw : Kept [] w w2 := Kept.trans hKW hK3 (by simp) (by simp)
  have hKe := kept7 (b := w.heap.size + 1 + 1 + 1) (kept7 (b := w.heap.size + 1 + 1) hKw (.inl (by omega)) (.int .i64 8) (.int .i64 0) (.int .i64 0) (.float .f64 0) (.string ⟨#[]⟩) (.slice ka9 d9.keys.length kc9) (.slice a9 d9.kids.len cap9)) (.inl (by omega)) (.int .i64 0) (.int .i64 0) (.int .i64 0) (.float .f64 0) (.string ⟨#[]⟩) (.slice none 0 0) (.slice none 0 0)
  have hoff1 : ∀ n : Nat, (⟨w.heap.size + 1 + 1, 0, none⟩ : Addr).add n = ⟨w.heap.size + 1 + 1, n, none⟩ := fun n => addr0 _ _
  have hoff2 : ∀ n : Nat, (⟨w.heap.size + 1 + 1 + 1, 0, none⟩ : Addr).add n = ⟨w.heap.size + 1 + 1 + 1, n, none⟩ := fun n => addr0 _ _
  refine bodyPost_ret (v := .tuple #[.agg #[.int .i64 8, .int .i64 0, .int .i64 0, .float .f64 0, .string ⟨#[]⟩, .slice ka9 d9.keys.length kc9, .slice a9 d9.kids.len cap9], .bool true, (.agg #[.int .i64 0,.int .i64 0,.int .i64 0,.float .f64 0,.string ⟨#[]⟩,.slice none 0 0,.slice none 0 0]), .bool true]) (by simp [results, Tryz.results17, go_sem, hoff1, hoff2, a0, a1, a2, a3, a4, a5, a6, b0, b1, b2, b3, b4, b5, b6]) rfl ?_
  refine ⟨hKe, 0, 0, 0, ⟨#[]⟩, d9, ka9, kc9, a9, cap9, true, Nd.zero, none, 0, none, 0, true, rfl, fun _ => ⟨⟨rfl, rfl, feq00, rfl⟩, fr_kept hK5 hKf (fun x hx => ?_) (Nat.le_trans hN hKw.size) HN.out, zeroNode, .inc rfl HVA.out rfl (HNN.out ▸ HP.out)⟩⟩
  have := hK33.size
  simp at hx
  omega
end Go.Proofs.YtfkecmlmnhbmoaaGreatDoor
namespace Go.Proofs.YtfkecmlmnhbmoaaGreatDoor
open Go.RowKit Go.Maps
set_option maxRecDepth 100000 in
set_option maxHeartbeats 8000000 in
theorem done17 (L : List (ByteArray × Nd)) (op : Int) (key : ByteArray) (y : Nd) (i g : Int) (r : Nat) (s : ByteArray) (N : Bd) (ka : Option Addr) (kc : Nat) (a : Option Addr) (cap : Nat) (kb : Option Addr) (kd : Nat) (ab : Option Addr) (capb : Nat) (w : World) (hd : DiOk (Di.of L)) (hz : Z4 i g r s) (hn : Node (LtB N) w 8 i g r s (Di.of L).keys (Di.of L).kids ka kc a cap)
    (hy : Node (LtB N) w y.k y.i y.g y.r y.s y.keys y.kids kb kd ab capb) (hN : N.n ≤ w.heap.size) (hky : Simp key) (hyo : NdOk y) (hop : I64 op) (hlb : L.length ≤ 1000000000000)  :
    Calls Tryz.prog 17 #[.agg #[.int .i64 8, .int .i64 i, .int .i64 g, .float .f64 r, .string s, .slice ka (Di.of L).keys.length kc, .slice a (Di.of L).kids.len cap], .agg #[.int .i64 op, .string key, .int .i64 y.k, .int .i64 y.i, .int .i64 y.g, .float .f64 y.r, .string y.s, .slice kb y.keys.length kd, .slice ab y.kids.len capb]] w (DoE N (Di.of L) op key y w) := by
  by_cases hin : key ∈ (Di.of L).keys
  · by_cases h0 : op = 0
    · exact do_ins1 L op key y i g r s N ka kc a cap kb kd ab capb w hd hz hn hy hN hky hyo hop hlb h0 hin
    by_cases h1 : op = 1
    · exact do_upd1 L op key y i g r s N ka kc a cap kb kd ab capb w hd hz hn hy hN hky hyo hop hlb h1 hin
    by_cases h2 : op = 2
    · exact do_del1 L op key y i g r s N ka kc a cap kb kd ab capb w hd hz hn hy hN hky hyo hop hlb h2 hin
    by_cases h3 : op = 3
    · exact do_look1_3 L op key y i g r s N ka kc a cap kb kd ab capb w hd hz hn hy hN hky hyo hop hlb h3 hin
    by_cases h4 : op = 4
    · exact do_look1_4 L op key y i g r s N ka kc a cap kb kd ab capb w hd hz hn hy hN hky hyo hop hlb h4 hin
    by_cases h5 : op = 5
    · exact do_look1_5 L op key y i g r s N ka kc a cap kb kd ab capb w hd hz hn hy hN hky hyo hop hlb h5 hin
    by_cases h6 : op = 6
    · obtain ⟨v, hv⟩ := hd.at hin
      by_cases hk : v.k = 2
      · exact do_inc2 L op key y i g r s N ka kc a cap kb kd ab capb w hd hz hn hy hN hky hyo hop hlb h6 hin v hv hk
      · exact do_inc1 L op key y i g r s N ka kc a cap kb kd ab capb w hd hz hn hy hN hky hyo hop hlb h6 hin (fun v' hv' => by rw [hd.one hv' hv]; exact hk)
    exact do_else1 L op key y i g r s N ka kc a cap kb kd ab capb w hd hz hn hy hN hky hyo hop hlb ⟨h0, h1, h2, h3, h4, h5, h6⟩ hin
  · by_cases h0 : op = 0
    · exact do_ins L op key y i g r s N ka kc a cap kb kd ab capb w hd hz hn hy hN hky hyo hop hlb h0 hin
    by_cases h1 : op = 1
    · exact do_upd0 L op key y i g r s N ka kc a cap kb kd ab capb w hd hz hn hy hN hky hyo hop hlb h1 hin
    by_cases h2 : op = 2
    · exact do_del0 L op key y i g r s N ka kc a cap kb kd ab capb w hd hz hn hy hN hky hyo hop hlb h2 hin
    by_cases h3 : op = 3
    · exact do_look0_3 L op key y i g r s N ka kc a cap kb kd ab capb w hd hz hn hy hN hky hyo hop hlb h3 hin
    by_cases h4 : op = 4
    · exact do_look0_4 L op key y i g r s N ka kc a cap kb kd ab capb w hd hz hn hy hN hky hyo hop hlb h4 hin
    by_cases h5 : op = 5
    · exact do_look0_5 L op key y i g r s N ka kc a cap kb kd ab capb w hd hz hn hy hN hky hyo hop hlb h5 hin
    by_cases h6 : op = 6
    · exact do_inc0 L op key y i g r s N ka kc a cap kb kd ab capb w hd hz hn hy hN hky hyo hop hlb h6 hin
    exact do_else0 L op key y i g r s N ka kc a cap kb kd ab capb w hd hz hn hy hN hky hyo hop hlb ⟨h0, h1, h2, h3, h4, h5, h6⟩ hin
end Go.Proofs.YtfkecmlmnhbmoaaGreatDoor
namespace Go.Proofs.YtfkecmlmnhbmoaaGreatDoor
open Go.RowKit Go.Maps
/-- A step: what it does, a key, a value. -/
structure Stp where
  op : Int
  key : ByteArray
  y : Nd
/-- Its nine cells. -/
structure Cells9 (w : World) (b o : Nat) (s : Stp) (v5 v6 : Value) : Prop where
  c0 : w.cell? ⟨b, o, none⟩ = some (.int .i64 s.op)
  c1 : w.cell? ⟨b, o + 1, none⟩ = some (.string s.key)
  c2 : w.cell? ⟨b, o + 2, none⟩ = some (.int .i64 s.y.k)
  c3 : w.cell? ⟨b, o + 3, none⟩ = some (.int .i64 s.y.i)
  c4 : w.cell? ⟨b, o + 4, none⟩ = some (.int .i64 s.y.g)
  c5 : w.cell? ⟨b, o + 5, none⟩ = some (.float .f64 s.y.r)
  c6 : w.cell? ⟨b, o + 6, none⟩ = some (.string s.y.s)
  c7 : w.cell? ⟨b, o + 7, none⟩ = some v5
  c8 : w.cell? ⟨b, o + 8, none⟩ = some v6
/-- A slice of steps, in blocks of a kind. -/
def StepsIn (P : Nat → Prop) (w : World) (a : Option Addr) (cap : Nat) (ss : List Stp) : Prop :=
  ss.length ≤ cap ∧ ss.length * 120 ≤ 140737488355328 ∧ ∀ j (h : j < ss.length), ∃ b o ka kc a' cap', a = some ⟨b, o, none⟩ ∧ P b ∧ Cells9 w b (o + j * 9) ss[j] (.slice ka ss[j].y.keys.length kc) (.slice a' ss[j].y.kids.len cap') ∧
    Node P w ss[j].y.k ss[j].y.i ss[j].y.g ss[j].y.r ss[j].y.s ss[j].y.keys ss[j].y.kids ka kc a' cap' ∧ I64 ss[j].op ∧ ss[j].key.size ≤ 140737488351232
theorem StepsIn.kept {P : Nat → Prop} {w w' : World} {X : List Nat} {a : Option Addr} {cap : Nat} {ss : List Stp} (h : StepsIn P w a cap ss) (hk : Kept X w w') (hP : ∀ b, P b → b < w.heap.size ∧ b ∉ X) : StepsIn P w' a cap ss :=
  ⟨h.1, h.2.1, fun j hj => by
    obtain ⟨b, o, ka, kc, a', cap', ha, hb, hc, hn, ho, hs⟩ := h.2.2 j hj
    have c : ∀ p, w'.cell? ⟨b, p, none⟩ = w.cell? ⟨b, p, none⟩ := fun p => hk.cell (hP _ hb).1 (hP _ hb).2
    exact ⟨b, o, ka, kc, a', cap', ha, hb, ⟨(c _).trans hc.c0, (c _).trans hc.c1, (c _).trans hc.c2, (c _).trans hc.c3, (c _).trans hc.c4, (c _).trans hc.c5, (c _).trans hc.c6, (c _).trans hc.c7, (c _).trans hc.c8⟩, hn.kept hk hP, ho, hs⟩⟩
theorem StepR.ok {d d' : Di} {op : Int} {key : ByteArray} {y v : Nd} {told : Bool} (h : StepR d op key y d' told v) (hd : DiOk d) : DiOk d' ∧ d'.keys.length ≤ d.keys.length + 1 := by
  cases h with
  | insNo _ _ => exact ⟨hd, by omega⟩
  | ins _ _ hp => exact ⟨hp.ok, hp.len⟩
  | upd _ _ hp => exact ⟨hp.ok, hp.len⟩
  | del _ _ hp => exact ⟨hp.ok, by have := hp.len; omega⟩
  | delNo _ _ hp => exact ⟨hp.ok, by have := hp.len; omega⟩
  | look _ _ => exact ⟨hd, by omega⟩
  | lookNo _ _ => exact ⟨hd, by omega⟩
  | incNo _ _ => exact ⟨hd, by omega⟩
  | inc _ _ _ hp => exact ⟨hp.ok, hp.len⟩
/-- What the steps do, one after another. -/
structure Hist (ss : List Stp) (d : Nat → Di) (told : Nat → Bool) (v : Nat → Nd) (n : Nat) : Prop where
  le : n ≤ ss.length
  step : ∀ j (h : j < ss.length), j < n → StepR (d j) ss[j].op ss[j].key ss[j].y (d (j + 1)) (told j) (v j)
  simp : ∀ j (h : j < ss.length), j < n → Simp ss[j].key
  ok : ∀ j (h : j < ss.length), j < n → NdOk ss[j].y
theorem Hist.dok {ss : List Stp} {d : Nat → Di} {told : Nat → Bool} {v : Nat → Nd} {n : Nat} (h : Hist ss d told v n) (h0 : DiOk (d 0)) : ∀ j, j ≤ n → DiOk (d j) ∧ (d j).keys.length ≤ (d 0).keys.length + j
  | 0, _ => ⟨h0, Nat.le_refl _⟩
  | j + 1, hj => by
    obtain ⟨h1, h2⟩ := Hist.dok h h0 j (by omega)
    have h3 := (h.step j (by have := h.le; omega) (by omega)).ok h1
    exact ⟨h3.1, by omega⟩
theorem Hist.mono {ss : List Stp} {d : Nat → Di} {told : Nat → Bool} {v : Nat → Nd} {n m : Nat} (h : Hist ss d told v n) (hm : m ≤ n) : Hist ss d told v m :=
  ⟨Nat.le_trans hm h.le, fun j hj hn => h.step j hj (by omega), fun j hj hn => h.simp j hj (by omega), fun j hj hn => h.ok j hj (by omega)⟩
end Go.Proofs.YtfkecmlmnhbmoaaGreatDoor
namespace Go.Proofs.YtfkecmlmnhbmoaaGreatDoor
open Go.RowKit Go.Maps
/-- What has been said and handed back so far. -/
structure Res (ss : List Stp) (told : Nat → Bool) (v : Nat → Nd) (bs : List Bool) (vs : List Nd) : Prop where
  len : bs.length = vs.length
  say : ∀ j (h : j < ss.length) (k : j < bs.length), ss[j].op ≠ 2 → bs[j] = told j
  val : ∀ j (h : j < ss.length) (k : j < vs.length), ss[j].op = 2 ∨ ss[j].op = 3 ∨ ss[j].op = 5 → SameN vs[j] (v j)
theorem Res.nil (ss : List Stp) (told : Nat → Bool) (v : Nat → Nd) : Res ss told v [] [] := ⟨rfl, by simp, by simp⟩
theorem Res.more {ss : List Stp} {told : Nat → Bool} {v : Nat → Nd} {bs : List Bool} {vs : List Nd} (h : Res ss told v bs vs) {b : Bool} {n : Nd} (h1 : ∀ (hj : bs.length < ss.length), ss[bs.length].op ≠ 2 → b = told bs.length) (h2 : ∀ (hj : bs.length < ss.length), ss[bs.length].op = 2 ∨ ss[bs.length].op = 3 ∨ ss[bs.length].op = 5 → SameN n (v bs.length)) : Res ss told v (bs ++ [b]) (vs ++ [n]) := by
  refine ⟨by simp [h.len], fun j hj hk ho => ?_, fun j hj hk ho => ?_⟩
  · by_cases e : j < bs.length
    · rw [List.getElem_append_left e]; exact h.say j hj e ho
    · have e2 : j = bs.length := by simp at hk; omega
      subst e2
      rw [List.getElem_append_right (Nat.le_refl _)]
      simpa using h1 hj ho
  · by_cases e : j < vs.length
    · rw [List.getElem_append_left e]; exact h.val j hj e ho
    · have e2 : j = vs.length := by simp at hk; omega
      subst e2
      rw [List.getElem_append_right (Nat.le_refl _)]
      have := h.len
      simp only [← this] at ho ⊢
      simpa using h2 (by rw [this]; exact hj) ho
/-- The two rows of what has been said and handed back, the values' parts in a set of blocks that nobody writes any more. -/
structure Two (L : Nat → Prop) (B b : Nat) (w : World) (vb vv : Value) (bs : List Bool) (vs : List Nd) : Prop where
  ex : ∃ (G : Nat → Prop) (cs : List Value), w.ownsRow B 4 1 vb bs.length (bs.map .bool) ∧ w.ownsRow B 26 7 vv bs.length cs ∧ Flat G w (F.of vs) cs ∧ (∀ x, vb.ownBlock = some x → vv.ownBlock ≠ some x) ∧
    (∀ x, G x → x < w.heap.size ∧ x ≠ b ∧ vb.ownBlock ≠ some x ∧ vv.ownBlock ≠ some x) ∧ ∀ x, G x → L x
theorem Two.nil (L : Nat → Prop) (B b : Nat) (w : World) : Two L B b w (.slice none 0 0) (.slice none 0 0) [] [] :=
  ⟨fun _ => False, [], ⟨rfl, .inl ⟨rfl, rfl⟩⟩, ⟨rfl, .inl ⟨rfl, rfl⟩⟩, rfl, (fun _ h => by cases h), (fun _ h => h.elim), fun _ h => h.elim⟩
theorem Two.kept {L : Nat → Prop} {B b : Nat} {w w' : World} {vb vv : Value} {bs : List Bool} {vs : List Nd} (h : Two L B b w vb vv bs vs) (hk : Kept [b] w w') (hb : b < B) : Two L B b w' vb vv bs vs := by
  obtain ⟨G, cs, h1, h2, h3, h4, h5, h6⟩ := h
  have hb1 : ∀ x ∈ [b], vb.ownBlock ≠ some x := fun x hx e => by
    have : x = b := by simpa using hx
    have := (ownsRow_lt h1 e).2
    omega
  have hb2 : ∀ x ∈ [b], vv.ownBlock ≠ some x := fun x hx e => by
    have : x = b := by simpa using hx
    have := (ownsRow_lt h2 e).2
    omega
  exact ⟨G, cs, ownsRow_kept h1 hk hb1, ownsRow_kept h2 hk hb2, h3.kept hk fun x hx => ⟨(h5 x hx).1, fun hm => (h5 x hx).2.1 (by simpa using hm)⟩, h4, fun x hx => ⟨Nat.lt_of_lt_of_le (h5 x hx).1 hk.size, (h5 x hx).2⟩, h6⟩
/-- One more of each. -/
theorem Two.more {L : Nat → Prop} {B b : Nat} {w w1 : World} {k0 i0 : Option Nat} {vb vv vb' vv' : Value} {bs : List Bool} {vs : List Nd} {G : Nat → Prop} {cs : List Value} {sy : Bool} {n : Nd} {ka : Option Addr} {kc : Nat} {a : Option Addr} {cap : Nat} {bk bi : Option Nat} {ys : List Value} (hys : ys = [.int .i64 n.k, .int .i64 n.i, .int .i64 n.g, .float .f64 n.r, .string n.s, .slice ka n.keys.length kc, .slice a n.kids.len cap])
    (hst : Rg 4 w w1 k0 i0 B vb' vv' (bs.length + 1) (bs.map .bool ++ [.bool sy]) (bs.length + 1) (cs ++ ys) (.bool sy) ys bk bi) (hk0 : k0 = vb.ownBlock) (hi0 : i0 = vv.ownBlock)
    (hf : Flat G w (F.of vs) cs) (hG : ∀ x, G x → x < w.heap.size ∧ x ≠ b ∧ vb.ownBlock ≠ some x ∧ vv.ownBlock ≠ some x) {Q : Nat → Prop} (hn : Node Q w n.k n.i n.g n.r n.s n.keys n.kids ka kc a cap) (hQ : ∀ x, Q x → x < w.heap.size ∧ x ≠ b ∧ vb.ownBlock ≠ some x ∧ vv.ownBlock ≠ some x) (hGB : ∀ x, G x → L x) (hQB : ∀ x, Q x → L x) :
    Two L B b w1 vb' vv' (bs ++ [sy]) (vs ++ [n]) := by
  subst hys hk0 hi0
  have hav : ∀ x, x < w.heap.size ∧ x ≠ b ∧ vb.ownBlock ≠ some x ∧ vv.ownBlock ≠ some x → x < w.heap.size ∧ x ∉ vb.ownBlock.toList ++ vv.ownBlock.toList := fun x hx => ⟨hx.1, fun hm => by
    rcases List.mem_append.1 hm with hm | hm
    · exact hx.2.2.1 (by simpa using hm)
    · exact hx.2.2.2 (by simpa using hm)⟩
  refine ⟨fun x => G x ∨ Q x, cs ++ [.int .i64 n.k, .int .i64 n.i, .int .i64 n.g, .float .f64 n.r, .string n.s, .slice ka n.keys.length kc, .slice a n.kids.len cap], ?_, ?_, ?_, hst.ne, fun x hx => ?_, fun x hx => hx.elim (hGB x) (hQB x)⟩
  · have := hst.kr
    rw [List.length_append, List.map_append]; exact this
  · rw [List.length_append]; exact hst.ir
  · rw [F.of_snoc]
    exact Flat.snoc ((hn.kept hst.keep fun x hx => hav x (hQ x hx)).mono fun x hx => .inr hx) ((hf.kept hst.keep fun x hx => hav x (hG x hx)).mono fun x hx => .inl hx)
  · have h1 : x < w.heap.size ∧ x ≠ b ∧ vb.ownBlock ≠ some x ∧ vv.ownBlock ≠ some x := by
      rcases hx with hx | hx
      · exact hG x hx
      · exact hQ x hx
    refine ⟨Nat.lt_of_lt_of_le h1.1 hst.keep.size, h1.2.1, fun e => ?_, fun e => ?_⟩
    · rcases hst.ka with h2 | ⟨g, h2, h3⟩
      · exact h1.2.2.1 (by rw [← h2]; exact e)
      · rw [e] at h2; cases h2; omega
    · rcases hst.ia with h2 | ⟨g, h2, h3⟩
      · exact h1.2.2.2 (by rw [← h2]; exact e)
      · rw [e] at h2; cases h2; omega
/-- The rows' own blocks. -/
def Own2 (v5 v6 : Value) : Nat → Prop := fun x => v5.ownBlock = some x ∨ v6.ownBlock = some x
/-- What a map stands for, behind the appends to both rows. -/
theorem RepM.rows {H B b bd : Nat} {w w1 : World} {d : Di} {vb vv vb' vv' : Value} {n m : Nat} {ks cs : List Value} {key : Value} {ys : List Value} {bk bi : Option Nat} (h : RepM (Own2 vb vv) H b bd w d)
    (hst : Rg 4 w w1 vb.ownBlock vv.ownBlock B vb' vv' n ks m cs key ys bk bi) (hb : ∀ x, vb.ownBlock = some x ∨ vv.ownBlock = some x → x ≠ b) : RepM (Own2 vb' vv') H b bd w1 d := by
  have hX : ∀ x ∈ vb.ownBlock.toList ++ vv.ownBlock.toList, Own2 vb vv x := fun x hx => by
    rcases List.mem_append.1 hx with h | h
    · exact .inl (by simpa using h)
    · exact .inr (by simpa using h)
  obtain ⟨n, D, h1, h2, h3, h4⟩ := h
  have h5 := h4.kept hst.keep fun x hx => .inr (hX x hx)
  refine ⟨n, D, owns_kept h1 hst.keep fun hm => hb b (hX b hm) rfl, h2, h3, fun s y hy => ?_⟩
  obtain ⟨v, e1, e2⟩ := h4 s y hy
  refine ⟨v, e1, (e2.kept hst.keep fun x hx => ⟨hx.2.1, fun hm => hx.2.2 (hX x hm)⟩).mono fun x hx => ⟨hx.1, Nat.lt_of_lt_of_le hx.2.1 hst.keep.size, fun ho => ?_⟩⟩
  rcases ho with ho | ho
  · rcases hst.ka with h | ⟨g, h, hg⟩
    · exact hx.2.2 (.inl (by rw [← h]; exact ho))
    · rw [ho] at h; cases h; have := hx.2.1; omega
  · rcases hst.ia with h | ⟨g, h, hg⟩
    · exact hx.2.2 (.inr (by rw [← h]; exact ho))
    · rw [ho] at h; cases h; have := hx.2.1; omega
theorem Two.own {L : Nat → Prop} {B b : Nat} {w : World} {vb vv : Value} {bs : List Bool} {vs : List Nd} (h : Two L B b w vb vv bs vs) {x : Nat} (hx : Own2 vb vv x) : B ≤ x ∧ x < w.heap.size := by
  obtain ⟨G, cs, h1, h2, _⟩ := h
  rcases hx with hx | hx
  · exact ⟨(ownsRow_lt h1 hx).2, (ownsRow_lt h1 hx).1⟩
  · exact ⟨(ownsRow_lt h2 hx).2, (ownsRow_lt h2 hx).1⟩
theorem RepM.nil {H B bd : Nat} {w : World} {d : Di} (h : RepM (fun _ => False) H B bd w d) : RepM (Own2 (.slice none 0 0) (.slice none 0 0)) H B bd w d := by
  obtain ⟨n, D, h1, h2, h3, h4⟩ := h
  refine ⟨n, D, h1, h2, h3, fun s y hy => ?_⟩
  obtain ⟨v, e1, e2⟩ := h4 s y hy
  exact ⟨v, e1, e2.mono fun x hx => ⟨hx.1, hx.2.1, fun h => by rcases h with h | h <;> cases h⟩⟩
end Go.Proofs.YtfkecmlmnhbmoaaGreatDoor
namespace Go.Proofs.YtfkecmlmnhbmoaaGreatDoor
open Go.RowKit Go.Maps
theorem Two.out {B b : Nat} {w : World} {vb vv : Value} {bs : List Bool} {vs : List Nd} (h : Two (fun x => B ≤ x) B b w vb vv bs vs) (hl : bs.length = vs.length) (hb : bs.length * 96 ≤ 140737488355328) :
    ∃ tb tc va vc, vb = .slice tb bs.length tc ∧ vv = .slice va bs.length vc ∧ RowIn (Fr 0 B w.heap.size) w tb (bs.map .bool) ∧ Kids (Fr 0 B w.heap.size) w va vc (F.of vs) := by
  obtain ⟨G, cs, hkr, hir, hfl, hne, h5, h6⟩ := h
  have hil : (F.of vs).len = bs.length := by rw [F.of_len, hl]
  have e1 : ∃ tb tc, vb = .slice tb bs.length tc ∧ RowIn (Fr 0 B w.heap.size) w tb (bs.map .bool) := by
    rcases hkr.2 with ⟨rfl, h0⟩ | ⟨g, c, cur, rfl, h2, h3, h4⟩
    · exact ⟨none, 0, by rw [h0], fun i hi => by rw [List.length_map, h0] at hi; omega⟩
    · refine ⟨_, c, rfl, fun i hi => ⟨g, 0, rfl, .inr ⟨h2, lt_of_block h3⟩, ?_⟩⟩
      have := World.ownsRow.cells (g := g) hkr rfl i _ (List.getElem?_eq_getElem hi)
      simpa [addr0] using this
  have e2 : ∃ va vc, vv = .slice va bs.length vc ∧ Kids (Fr 0 B w.heap.size) w va vc (F.of vs) := by
    rcases hir.2 with ⟨rfl, h0⟩ | ⟨g, c, cur, rfl, h2, h3, h4⟩
    · exact ⟨none, 0, by rw [h0], by rw [hil]; omega, by rw [hil]; omega, .inl (by rw [hil]; exact h0)⟩
    · refine ⟨_, c, rfl, by rw [hil]; exact h4.1, by rw [hil]; exact hb, .inr ⟨g, 0, rfl, .inr ⟨h2, lt_of_block h3⟩, ?_⟩⟩
      exact Flat.in (hfl.mono fun x hx => .inr ⟨h6 x hx, (h5 x hx).1⟩) fun j u hj => by
        have := World.ownsRow.cells (g := g) hir rfl j u hj
        simpa [addr0] using this
  obtain ⟨tb, tc, rfl, h1⟩ := e1
  obtain ⟨va, vc, rfl, h2⟩ := e2
  exact ⟨tb, tc, va, vc, rfl, rfl, h1, h2⟩
end Go.Proofs.YtfkecmlmnhbmoaaGreatDoor
