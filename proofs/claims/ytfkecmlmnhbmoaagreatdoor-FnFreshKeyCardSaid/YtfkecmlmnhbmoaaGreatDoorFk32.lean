import Derived.Test.YtfkecmlmnhbmoaaGreatDoorFk26
import Derived.Test.YtfkecmlmnhbmoaaGreatDoorFk28
import Derived.Test.YtfkecmlmnhbmoaaGreatDoorFk29
import Derived.Test.YtfkecmlmnhbmoaaGreatDoorFk31
import Derived.BigRegion
import Derived.Deep.RegionWith
import Derived.Deep.RegionHeld3
namespace Go.Proofs.YtfkecmlmnhbmoaaGreatDoor
open Go.RowKit
set_option maxRecDepth 100000 in
set_option maxHeartbeats 8000000 in
theorem fo0F (N : Nat) (W0 : World) (ht0 : Tb N W0) (hN0 : N ≤ W0.heap.size) (i g : Int) (r : Nat) (s : ByteArray) (keys : List ByteArray) (kids : F) : FoF N W0 0 i g r s keys kids := by
  cases hon : onlyB 0 i g r s keys.length kids.len
  · refine ⟨false, ?_⟩
    have HON := Lib.hid hon; clear hon
    intro ka kc a cap w hkw hn
    have ht := ht0.kept hkw hN0 (by simp)
    have hN : N ≤ w.heap.size := Nat.le_trans hN0 hkw.size
    have hfld := hn.fld
    obtain ⟨⟨k1, k2⟩, ⟨i1, i2⟩, ⟨g1, g2⟩, r1, s1⟩ := hn.fld
    have hlk1 : keys.length ≤ 140737488351232 := by have := hn.keys.2.1; omega
    have hlk2 : kids.len ≤ 140737488351232 := by have := hn.kids.2.1; omega
    obtain ⟨w0, hw0⟩ : ∃ w0, w0 = (w.alloc (.cells #[.int .i64 0, .int .i64 i, .int .i64 g, .float .f64 r, .string s, .slice ka keys.length kc, .slice a kids.len cap] 26)).alloc (.cells #[.int .i64 0, .int .i64 0, .int .i64 0, .float .f64 0, .string ⟨#[]⟩, .slice none 0 0, .slice none 0 0] 31) := ⟨_, rfl⟩
    have hK0 : Kept [] w w0 := by rw [hw0]; exact ((Kept.refl [] w).alloc _).alloc _
    have hs0 : w0.heap.size = w.heap.size + 2 := by rw [hw0]; simp
    have hX1 : w0.heap[w.heap.size]? = some (.cells #[.int .i64 0, .int .i64 i, .int .i64 g, .float .f64 r, .string s, .slice ka keys.length kc, .slice a kids.len cap] 26 (0, 0)) := by
      rw [hw0, heap_lt (by simp)]; exact heap_at rfl
    have hX2 : w0.heap[w.heap.size + 1]? = some (.cells #[.int .i64 0, .int .i64 0, .int .i64 0, .float .f64 0, .string ⟨#[]⟩, .slice none 0 0, .slice none 0 0] 31 (0, 0)) := by
      rw [hw0]; exact heap_at (by simp)
    have hS0 : w.heap.size + 1 < w0.heap.size := by omega
    have HN := Lib.hid hn; clear hn hs0
    go_enter Tryz.func24, Tryz.ntmps24
    go_wp2_with fail
    rw [← hw0]
    refine (onlywF 0 i g r s ka keys.length kc a kids.len cap w0 hfld hlk1 hlk2).mono ?_
    rintro e w1 ⟨rfl, hK1⟩
    rw [HON.out]
    have hK2 : Kept [] w w1 := Kept.trans hK0 hK1 (by simp) (by simp)
    have hX1' := (hK1.block w.heap.size (by omega) (by simp)).trans hX1
    have hX2' := (hK1.block (w.heap.size + 1) (by omega) (by simp)).trans hX2
    have hS1 : w.heap.size + 1 < w1.heap.size := Nat.lt_of_lt_of_le hS0 hK1.size
    have hS2 : w.heap.size < w1.heap.size := by omega
    obtain ⟨⟨c0, c1, c2, c3, c4, c5, c6⟩, _⟩ := seven hX1'
    obtain ⟨⟨e0, e1, e2, e3, e4, e5, e6⟩, p0, p1, p2, p3, p4, p5, p6⟩ := seven hX2'
    have hoff := cell_set_off
    have r0 := fun (X : World) (i j : Nat) (u : Value) => cell_set_other (show w.heap.size + 1 ≠ w.heap.size by omega) i j X u
    clear hw0 hK0 hX1 hX2 hS0 hK1
    have HX1 := Lib.hid hX1'; have HX2 := Lib.hid hX2'; clear hX1' hX2'
    go_wp2_with fail
    refine bodyPost_ret (v := .tuple #[.agg #[.int .i64 0, .int .i64 0, .int .i64 0, .float .f64 0, .string ⟨#[]⟩, .slice none 0 0, .slice none 0 0], .bool false]) (by simp [results, Tryz.results24, go_sem, hoff, e0, e1, e2, e3, e4, e5, e6]) rfl ?_
    exact ⟨foNo (kept7 hK2 (.inl (by omega)) _ _ _ _ _ _ _), _, (by first | rfl | (rw [FL.out]; done) | (rw [FL.out]; rfl))⟩
  have ho := onlyB_true.1 hon
  have HON := Lib.hid hon; clear hon
  have HO := Lib.hid ho; clear ho
  refine ⟨true, ?_⟩
  intro ka kc a cap w hkw hn
  have ht := ht0.kept hkw hN0 (by simp)
  have hN : N ≤ w.heap.size := Nat.le_trans hN0 hkw.size
  have hfld := hn.fld
  obtain ⟨⟨k1, k2⟩, ⟨i1, i2⟩, ⟨g1, g2⟩, r1, s1⟩ := hn.fld
  have hlk1 : keys.length ≤ 140737488351232 := by have := hn.keys.2.1; omega
  have hlk2 : kids.len ≤ 140737488351232 := by have := hn.kids.2.1; omega
  obtain ⟨w0, hw0⟩ : ∃ w0, w0 = (w.alloc (.cells #[.int .i64 0, .int .i64 i, .int .i64 g, .float .f64 r, .string s, .slice ka keys.length kc, .slice a kids.len cap] 26)).alloc (.cells #[.int .i64 0, .int .i64 0, .int .i64 0, .float .f64 0, .string ⟨#[]⟩, .slice none 0 0, .slice none 0 0] 31) := ⟨_, rfl⟩
  have hK0 : Kept [] w w0 := by rw [hw0]; exact ((Kept.refl [] w).alloc _).alloc _
  have hs0 : w0.heap.size = w.heap.size + 2 := by rw [hw0]; simp
  have hX1 : w0.heap[w.heap.size]? = some (.cells #[.int .i64 0, .int .i64 i, .int .i64 g, .float .f64 r, .string s, .slice ka keys.length kc, .slice a kids.len cap] 26 (0, 0)) := by
    rw [hw0, heap_lt (by simp)]; exact heap_at rfl
  have hX2 : w0.heap[w.heap.size + 1]? = some (.cells #[.int .i64 0, .int .i64 0, .int .i64 0, .float .f64 0, .string ⟨#[]⟩, .slice none 0 0, .slice none 0 0] 31 (0, 0)) := by
    rw [hw0]; exact heap_at (by simp)
  have hS0 : w.heap.size + 1 < w0.heap.size := by omega
  have HN := Lib.hid hn; clear hn hs0
  go_enter Tryz.func24, Tryz.ntmps24
  go_wp2_with fail
  rw [← hw0]
  refine (onlywF 0 i g r s ka keys.length kc a kids.len cap w0 hfld hlk1 hlk2).mono ?_
  rintro e w1 ⟨rfl, hK1⟩
  rw [HON.out]
  have hK2 : Kept [] w w1 := Kept.trans hK0 hK1 (by simp) (by simp)
  have hX1' := (hK1.block w.heap.size (by omega) (by simp)).trans hX1
  have hX2' := (hK1.block (w.heap.size + 1) (by omega) (by simp)).trans hX2
  have hS1 : w.heap.size + 1 < w1.heap.size := Nat.lt_of_lt_of_le hS0 hK1.size
  have hS2 : w.heap.size < w1.heap.size := by omega
  obtain ⟨⟨c0, c1, c2, c3, c4, c5, c6⟩, _⟩ := seven hX1'
  obtain ⟨⟨e0, e1, e2, e3, e4, e5, e6⟩, p0, p1, p2, p3, p4, p5, p6⟩ := seven hX2'
  have hoff := cell_set_off
  have r0 := fun (X : World) (i j : Nat) (u : Value) => cell_set_other (show w.heap.size + 1 ≠ w.heap.size by omega) i j X u
  clear hw0 hK0 hX1 hX2 hS0 hK1
  have HX1 := Lib.hid hX1'; have HX2 := Lib.hid hX2'; clear hX1' hX2'
  go_wp2_with fail
  refine bodyPost_ret (v := .tuple #[.agg #[.int .i64 0, .int .i64 0, .int .i64 0, .float .f64 0, .string ⟨#[]⟩, .slice none 0 0, .slice none 0 0], .bool true]) (by simp [results, Tryz.results24, go_sem, hoff, e0, e1, e2, e3, e4, e5, e6]) rfl ?_
  exact ⟨foLeaf (kept7 hK2 (.inl (by omega)) _ _ _ _ _ _ _) (⟨⟨by omega, by omega⟩, ⟨by omega, by omega⟩, ⟨by omega, by omega⟩, by omega, Nat.zero_le _⟩) (fun _ => ⟨⟨HO.out, by omega, by omega, by omega, by omega, by omega, by omega⟩, onlyNil HO.out (by decide)⟩) (by decide), _, rfl⟩
set_option maxRecDepth 100000 in
set_option maxHeartbeats 8000000 in
theorem fo1F (N : Nat) (W0 : World) (ht0 : Tb N W0) (hN0 : N ≤ W0.heap.size) (i g : Int) (r : Nat) (s : ByteArray) (keys : List ByteArray) (kids : F) : FoF N W0 1 i g r s keys kids := by
  cases hon : onlyB 1 i g r s keys.length kids.len
  · refine ⟨false, ?_⟩
    have HON := Lib.hid hon; clear hon
    intro ka kc a cap w hkw hn
    have ht := ht0.kept hkw hN0 (by simp)
    have hN : N ≤ w.heap.size := Nat.le_trans hN0 hkw.size
    have hfld := hn.fld
    obtain ⟨⟨k1, k2⟩, ⟨i1, i2⟩, ⟨g1, g2⟩, r1, s1⟩ := hn.fld
    have hlk1 : keys.length ≤ 140737488351232 := by have := hn.keys.2.1; omega
    have hlk2 : kids.len ≤ 140737488351232 := by have := hn.kids.2.1; omega
    obtain ⟨w0, hw0⟩ : ∃ w0, w0 = (w.alloc (.cells #[.int .i64 1, .int .i64 i, .int .i64 g, .float .f64 r, .string s, .slice ka keys.length kc, .slice a kids.len cap] 26)).alloc (.cells #[.int .i64 0, .int .i64 0, .int .i64 0, .float .f64 0, .string ⟨#[]⟩, .slice none 0 0, .slice none 0 0] 31) := ⟨_, rfl⟩
    have hK0 : Kept [] w w0 := by rw [hw0]; exact ((Kept.refl [] w).alloc _).alloc _
    have hs0 : w0.heap.size = w.heap.size + 2 := by rw [hw0]; simp
    have hX1 : w0.heap[w.heap.size]? = some (.cells #[.int .i64 1, .int .i64 i, .int .i64 g, .float .f64 r, .string s, .slice ka keys.length kc, .slice a kids.len cap] 26 (0, 0)) := by
      rw [hw0, heap_lt (by simp)]; exact heap_at rfl
    have hX2 : w0.heap[w.heap.size + 1]? = some (.cells #[.int .i64 0, .int .i64 0, .int .i64 0, .float .f64 0, .string ⟨#[]⟩, .slice none 0 0, .slice none 0 0] 31 (0, 0)) := by
      rw [hw0]; exact heap_at (by simp)
    have hS0 : w.heap.size + 1 < w0.heap.size := by omega
    have HN := Lib.hid hn; clear hn hs0
    go_enter Tryz.func24, Tryz.ntmps24
    go_wp2_with fail
    rw [← hw0]
    refine (onlywF 1 i g r s ka keys.length kc a kids.len cap w0 hfld hlk1 hlk2).mono ?_
    rintro e w1 ⟨rfl, hK1⟩
    rw [HON.out]
    have hK2 : Kept [] w w1 := Kept.trans hK0 hK1 (by simp) (by simp)
    have hX1' := (hK1.block w.heap.size (by omega) (by simp)).trans hX1
    have hX2' := (hK1.block (w.heap.size + 1) (by omega) (by simp)).trans hX2
    have hS1 : w.heap.size + 1 < w1.heap.size := Nat.lt_of_lt_of_le hS0 hK1.size
    have hS2 : w.heap.size < w1.heap.size := by omega
    obtain ⟨⟨c0, c1, c2, c3, c4, c5, c6⟩, _⟩ := seven hX1'
    obtain ⟨⟨e0, e1, e2, e3, e4, e5, e6⟩, p0, p1, p2, p3, p4, p5, p6⟩ := seven hX2'
    have hoff := cell_set_off
    have r0 := fun (X : World) (i j : Nat) (u : Value) => cell_set_other (show w.heap.size + 1 ≠ w.heap.size by omega) i j X u
    clear hw0 hK0 hX1 hX2 hS0 hK1
    have HX1 := Lib.hid hX1'; have HX2 := Lib.hid hX2'; clear hX1' hX2'
    go_wp2_with fail
    refine bodyPost_ret (v := .tuple #[.agg #[.int .i64 0, .int .i64 0, .int .i64 0, .float .f64 0, .string ⟨#[]⟩, .slice none 0 0, .slice none 0 0], .bool false]) (by simp [results, Tryz.results24, go_sem, hoff, e0, e1, e2, e3, e4, e5, e6]) rfl ?_
    exact ⟨foNo (kept7 hK2 (.inl (by omega)) _ _ _ _ _ _ _), _, (by first | rfl | (rw [FL.out]; done) | (rw [FL.out]; rfl))⟩
  have ho := onlyB_true.1 hon
  have HON := Lib.hid hon; clear hon
  have HO := Lib.hid ho; clear ho
  by_cases hi : i = 0
  · have zi : (i == 0) = true := beq_iff_eq.2 hi
    have HI := Lib.hid hi; clear hi
    refine ⟨true, ?_⟩
    intro ka kc a cap w hkw hn
    have ht := ht0.kept hkw hN0 (by simp)
    have hN : N ≤ w.heap.size := Nat.le_trans hN0 hkw.size
    have hfld := hn.fld
    obtain ⟨⟨k1, k2⟩, ⟨i1, i2⟩, ⟨g1, g2⟩, r1, s1⟩ := hn.fld
    have hlk1 : keys.length ≤ 140737488351232 := by have := hn.keys.2.1; omega
    have hlk2 : kids.len ≤ 140737488351232 := by have := hn.kids.2.1; omega
    obtain ⟨w0, hw0⟩ : ∃ w0, w0 = (w.alloc (.cells #[.int .i64 1, .int .i64 i, .int .i64 g, .float .f64 r, .string s, .slice ka keys.length kc, .slice a kids.len cap] 26)).alloc (.cells #[.int .i64 0, .int .i64 0, .int .i64 0, .float .f64 0, .string ⟨#[]⟩, .slice none 0 0, .slice none 0 0] 31) := ⟨_, rfl⟩
    have hK0 : Kept [] w w0 := by rw [hw0]; exact ((Kept.refl [] w).alloc _).alloc _
    have hs0 : w0.heap.size = w.heap.size + 2 := by rw [hw0]; simp
    have hX1 : w0.heap[w.heap.size]? = some (.cells #[.int .i64 1, .int .i64 i, .int .i64 g, .float .f64 r, .string s, .slice ka keys.length kc, .slice a kids.len cap] 26 (0, 0)) := by
      rw [hw0, heap_lt (by simp)]; exact heap_at rfl
    have hX2 : w0.heap[w.heap.size + 1]? = some (.cells #[.int .i64 0, .int .i64 0, .int .i64 0, .float .f64 0, .string ⟨#[]⟩, .slice none 0 0, .slice none 0 0] 31 (0, 0)) := by
      rw [hw0]; exact heap_at (by simp)
    have hS0 : w.heap.size + 1 < w0.heap.size := by omega
    have HN := Lib.hid hn; clear hn hs0
    go_enter Tryz.func24, Tryz.ntmps24
    go_wp2_with fail
    rw [← hw0]
    refine (onlywF 1 i g r s ka keys.length kc a kids.len cap w0 hfld hlk1 hlk2).mono ?_
    rintro e w1 ⟨rfl, hK1⟩
    rw [HON.out]
    have hK2 : Kept [] w w1 := Kept.trans hK0 hK1 (by simp) (by simp)
    have hX1' := (hK1.block w.heap.size (by omega) (by simp)).trans hX1
    have hX2' := (hK1.block (w.heap.size + 1) (by omega) (by simp)).trans hX2
    have hS1 : w.heap.size + 1 < w1.heap.size := Nat.lt_of_lt_of_le hS0 hK1.size
    have hS2 : w.heap.size < w1.heap.size := by omega
    obtain ⟨⟨c0, c1, c2, c3, c4, c5, c6⟩, _⟩ := seven hX1'
    obtain ⟨⟨e0, e1, e2, e3, e4, e5, e6⟩, p0, p1, p2, p3, p4, p5, p6⟩ := seven hX2'
    have hoff := cell_set_off
    have r0 := fun (X : World) (i j : Nat) (u : Value) => cell_set_other (show w.heap.size + 1 ≠ w.heap.size by omega) i j X u
    clear hw0 hK0 hX1 hX2 hS0 hK1
    have HX1 := Lib.hid hX1'; have HX2 := Lib.hid hX2'; clear hX1' hX2'
    go_wp2_with fail
    go_region
    go_wp2_with fail
    refine bodyPost_ret (v := .tuple #[.agg #[.int .i64 1, .int .i64 i, .int .i64 0, .float .f64 0, .string ⟨#[]⟩, .slice none 0 0, .slice none 0 0], .bool true]) (by simp [results, Tryz.results24, go_sem, hoff, e0, e1, e2, e3, e4, e5, e6]) rfl ?_
    exact ⟨foLeaf (by first | exact (kept7 hK2 (.inl (by omega)) _ _ _ _ _ _ _).drew | exact kept7 hK2.drew (.inl (by omega)) _ _ _ _ _ _ _) (⟨⟨by omega, by omega⟩, ⟨i1, i2⟩, ⟨by omega, by omega⟩, by omega, Nat.zero_le _⟩) (fun _ => ⟨⟨HO.out, by omega, by omega, fun _ => .inl HI.out, by omega, by omega, by omega⟩, onlyNil HO.out (by decide)⟩) (by decide), _, rfl⟩
  · have zi : (i == 0) = false := beq_eq_false_iff_ne.2 hi
    refine ⟨i == 1, ?_⟩
    intro ka kc a cap w hkw hn
    have ht := ht0.kept hkw hN0 (by simp)
    have hN : N ≤ w.heap.size := Nat.le_trans hN0 hkw.size
    have hfld := hn.fld
    obtain ⟨⟨k1, k2⟩, ⟨i1, i2⟩, ⟨g1, g2⟩, r1, s1⟩ := hn.fld
    have hlk1 : keys.length ≤ 140737488351232 := by have := hn.keys.2.1; omega
    have hlk2 : kids.len ≤ 140737488351232 := by have := hn.kids.2.1; omega
    obtain ⟨w0, hw0⟩ : ∃ w0, w0 = (w.alloc (.cells #[.int .i64 1, .int .i64 i, .int .i64 g, .float .f64 r, .string s, .slice ka keys.length kc, .slice a kids.len cap] 26)).alloc (.cells #[.int .i64 0, .int .i64 0, .int .i64 0, .float .f64 0, .string ⟨#[]⟩, .slice none 0 0, .slice none 0 0] 31) := ⟨_, rfl⟩
    have hK0 : Kept [] w w0 := by rw [hw0]; exact ((Kept.refl [] w).alloc _).alloc _
    have hs0 : w0.heap.size = w.heap.size + 2 := by rw [hw0]; simp
    have hX1 : w0.heap[w.heap.size]? = some (.cells #[.int .i64 1, .int .i64 i, .int .i64 g, .float .f64 r, .string s, .slice ka keys.length kc, .slice a kids.len cap] 26 (0, 0)) := by
      rw [hw0, heap_lt (by simp)]; exact heap_at rfl
    have hX2 : w0.heap[w.heap.size + 1]? = some (.cells #[.int .i64 0, .int .i64 0, .int .i64 0, .float .f64 0, .string ⟨#[]⟩, .slice none 0 0, .slice none 0 0] 31 (0, 0)) := by
      rw [hw0]; exact heap_at (by simp)
    have hS0 : w.heap.size + 1 < w0.heap.size := by omega
    have HN := Lib.hid hn; clear hn hs0
    go_enter Tryz.func24, Tryz.ntmps24
    go_wp2_with fail
    rw [← hw0]
    refine (onlywF 1 i g r s ka keys.length kc a kids.len cap w0 hfld hlk1 hlk2).mono ?_
    rintro e w1 ⟨rfl, hK1⟩
    rw [HON.out]
    have hK2 : Kept [] w w1 := Kept.trans hK0 hK1 (by simp) (by simp)
    have hX1' := (hK1.block w.heap.size (by omega) (by simp)).trans hX1
    have hX2' := (hK1.block (w.heap.size + 1) (by omega) (by simp)).trans hX2
    have hS1 : w.heap.size + 1 < w1.heap.size := Nat.lt_of_lt_of_le hS0 hK1.size
    have hS2 : w.heap.size < w1.heap.size := by omega
    obtain ⟨⟨c0, c1, c2, c3, c4, c5, c6⟩, _⟩ := seven hX1'
    obtain ⟨⟨e0, e1, e2, e3, e4, e5, e6⟩, p0, p1, p2, p3, p4, p5, p6⟩ := seven hX2'
    have hoff := cell_set_off
    have r0 := fun (X : World) (i j : Nat) (u : Value) => cell_set_other (show w.heap.size + 1 ≠ w.heap.size by omega) i j X u
    clear hw0 hK0 hX1 hX2 hS0 hK1
    have HX1 := Lib.hid hX1'; have HX2 := Lib.hid hX2'; clear hX1' hX2'
    go_wp2_with fail
    go_region
    go_wp2_with fail
    refine bodyPost_ret (v := .tuple #[.agg #[.int .i64 1, .int .i64 i, .int .i64 0, .float .f64 0, .string ⟨#[]⟩, .slice none 0 0, .slice none 0 0], .bool (i == 1)]) (by simp [results, Tryz.results24, go_sem, hoff, e0, e1, e2, e3, e4, e5, e6]) rfl ?_
    exact ⟨foLeaf (by first | exact (kept7 hK2 (.inl (by omega)) _ _ _ _ _ _ _).drew | exact kept7 hK2.drew (.inl (by omega)) _ _ _ _ _ _ _) (⟨⟨by omega, by omega⟩, ⟨i1, i2⟩, ⟨by omega, by omega⟩, by omega, Nat.zero_le _⟩) (fun h => ⟨⟨HO.out, by omega, by omega, fun _ => .inr (by simpa using h), by omega, by omega, by omega⟩, onlyNil HO.out (by decide)⟩) (by decide), _, rfl⟩
set_option maxRecDepth 100000 in
set_option maxHeartbeats 8000000 in
theorem fo2F (N : Nat) (W0 : World) (ht0 : Tb N W0) (hN0 : N ≤ W0.heap.size) (i g : Int) (r : Nat) (s : ByteArray) (keys : List ByteArray) (kids : F) : FoF N W0 2 i g r s keys kids := by
  cases hon : onlyB 2 i g r s keys.length kids.len
  · refine ⟨false, ?_⟩
    have HON := Lib.hid hon; clear hon
    intro ka kc a cap w hkw hn
    have ht := ht0.kept hkw hN0 (by simp)
    have hN : N ≤ w.heap.size := Nat.le_trans hN0 hkw.size
    have hfld := hn.fld
    obtain ⟨⟨k1, k2⟩, ⟨i1, i2⟩, ⟨g1, g2⟩, r1, s1⟩ := hn.fld
    have hlk1 : keys.length ≤ 140737488351232 := by have := hn.keys.2.1; omega
    have hlk2 : kids.len ≤ 140737488351232 := by have := hn.kids.2.1; omega
    obtain ⟨w0, hw0⟩ : ∃ w0, w0 = (w.alloc (.cells #[.int .i64 2, .int .i64 i, .int .i64 g, .float .f64 r, .string s, .slice ka keys.length kc, .slice a kids.len cap] 26)).alloc (.cells #[.int .i64 0, .int .i64 0, .int .i64 0, .float .f64 0, .string ⟨#[]⟩, .slice none 0 0, .slice none 0 0] 31) := ⟨_, rfl⟩
    have hK0 : Kept [] w w0 := by rw [hw0]; exact ((Kept.refl [] w).alloc _).alloc _
    have hs0 : w0.heap.size = w.heap.size + 2 := by rw [hw0]; simp
    have hX1 : w0.heap[w.heap.size]? = some (.cells #[.int .i64 2, .int .i64 i, .int .i64 g, .float .f64 r, .string s, .slice ka keys.length kc, .slice a kids.len cap] 26 (0, 0)) := by
      rw [hw0, heap_lt (by simp)]; exact heap_at rfl
    have hX2 : w0.heap[w.heap.size + 1]? = some (.cells #[.int .i64 0, .int .i64 0, .int .i64 0, .float .f64 0, .string ⟨#[]⟩, .slice none 0 0, .slice none 0 0] 31 (0, 0)) := by
      rw [hw0]; exact heap_at (by simp)
    have hS0 : w.heap.size + 1 < w0.heap.size := by omega
    have HN := Lib.hid hn; clear hn hs0
    go_enter Tryz.func24, Tryz.ntmps24
    go_wp2_with fail
    rw [← hw0]
    refine (onlywF 2 i g r s ka keys.length kc a kids.len cap w0 hfld hlk1 hlk2).mono ?_
    rintro e w1 ⟨rfl, hK1⟩
    rw [HON.out]
    have hK2 : Kept [] w w1 := Kept.trans hK0 hK1 (by simp) (by simp)
    have hX1' := (hK1.block w.heap.size (by omega) (by simp)).trans hX1
    have hX2' := (hK1.block (w.heap.size + 1) (by omega) (by simp)).trans hX2
    have hS1 : w.heap.size + 1 < w1.heap.size := Nat.lt_of_lt_of_le hS0 hK1.size
    have hS2 : w.heap.size < w1.heap.size := by omega
    obtain ⟨⟨c0, c1, c2, c3, c4, c5, c6⟩, _⟩ := seven hX1'
    obtain ⟨⟨e0, e1, e2, e3, e4, e5, e6⟩, p0, p1, p2, p3, p4, p5, p6⟩ := seven hX2'
    have hoff := cell_set_off
    have r0 := fun (X : World) (i j : Nat) (u : Value) => cell_set_other (show w.heap.size + 1 ≠ w.heap.size by omega) i j X u
    clear hw0 hK0 hX1 hX2 hS0 hK1
    have HX1 := Lib.hid hX1'; have HX2 := Lib.hid hX2'; clear hX1' hX2'
    go_wp2_with fail
    refine bodyPost_ret (v := .tuple #[.agg #[.int .i64 0, .int .i64 0, .int .i64 0, .float .f64 0, .string ⟨#[]⟩, .slice none 0 0, .slice none 0 0], .bool false]) (by simp [results, Tryz.results24, go_sem, hoff, e0, e1, e2, e3, e4, e5, e6]) rfl ?_
    exact ⟨foNo (kept7 hK2 (.inl (by omega)) _ _ _ _ _ _ _), _, (by first | rfl | (rw [FL.out]; done) | (rw [FL.out]; rfl))⟩
  have ho := onlyB_true.1 hon
  have HON := Lib.hid hon; clear hon
  have HO := Lib.hid ho; clear ho
  by_cases hi : -2147483648 ≤ i
  · have zi : decide (-2147483648 ≤ i) = true := by simp; omega
    refine ⟨decide (i < 2147483648), ?_⟩
    intro ka kc a cap w hkw hn
    have ht := ht0.kept hkw hN0 (by simp)
    have hN : N ≤ w.heap.size := Nat.le_trans hN0 hkw.size
    have hfld := hn.fld
    obtain ⟨⟨k1, k2⟩, ⟨i1, i2⟩, ⟨g1, g2⟩, r1, s1⟩ := hn.fld
    have hlk1 : keys.length ≤ 140737488351232 := by have := hn.keys.2.1; omega
    have hlk2 : kids.len ≤ 140737488351232 := by have := hn.kids.2.1; omega
    obtain ⟨w0, hw0⟩ : ∃ w0, w0 = (w.alloc (.cells #[.int .i64 2, .int .i64 i, .int .i64 g, .float .f64 r, .string s, .slice ka keys.length kc, .slice a kids.len cap] 26)).alloc (.cells #[.int .i64 0, .int .i64 0, .int .i64 0, .float .f64 0, .string ⟨#[]⟩, .slice none 0 0, .slice none 0 0] 31) := ⟨_, rfl⟩
    have hK0 : Kept [] w w0 := by rw [hw0]; exact ((Kept.refl [] w).alloc _).alloc _
    have hs0 : w0.heap.size = w.heap.size + 2 := by rw [hw0]; simp
    have hX1 : w0.heap[w.heap.size]? = some (.cells #[.int .i64 2, .int .i64 i, .int .i64 g, .float .f64 r, .string s, .slice ka keys.length kc, .slice a kids.len cap] 26 (0, 0)) := by
      rw [hw0, heap_lt (by simp)]; exact heap_at rfl
    have hX2 : w0.heap[w.heap.size + 1]? = some (.cells #[.int .i64 0, .int .i64 0, .int .i64 0, .float .f64 0, .string ⟨#[]⟩, .slice none 0 0, .slice none 0 0] 31 (0, 0)) := by
      rw [hw0]; exact heap_at (by simp)
    have hS0 : w.heap.size + 1 < w0.heap.size := by omega
    have HN := Lib.hid hn; clear hn hs0
    go_enter Tryz.func24, Tryz.ntmps24
    go_wp2_with fail
    rw [← hw0]
    refine (onlywF 2 i g r s ka keys.length kc a kids.len cap w0 hfld hlk1 hlk2).mono ?_
    rintro e w1 ⟨rfl, hK1⟩
    rw [HON.out]
    have hK2 : Kept [] w w1 := Kept.trans hK0 hK1 (by simp) (by simp)
    have hX1' := (hK1.block w.heap.size (by omega) (by simp)).trans hX1
    have hX2' := (hK1.block (w.heap.size + 1) (by omega) (by simp)).trans hX2
    have hS1 : w.heap.size + 1 < w1.heap.size := Nat.lt_of_lt_of_le hS0 hK1.size
    have hS2 : w.heap.size < w1.heap.size := by omega
    obtain ⟨⟨c0, c1, c2, c3, c4, c5, c6⟩, _⟩ := seven hX1'
    obtain ⟨⟨e0, e1, e2, e3, e4, e5, e6⟩, p0, p1, p2, p3, p4, p5, p6⟩ := seven hX2'
    have hoff := cell_set_off
    have r0 := fun (X : World) (i j : Nat) (u : Value) => cell_set_other (show w.heap.size + 1 ≠ w.heap.size by omega) i j X u
    clear hw0 hK0 hX1 hX2 hS0 hK1
    have HX1 := Lib.hid hX1'; have HX2 := Lib.hid hX2'; clear hX1' hX2'
    go_wp2_with fail
    go_region
    go_wp2_with fail
    refine bodyPost_ret (v := .tuple #[.agg #[.int .i64 2, .int .i64 i, .int .i64 0, .float .f64 0, .string ⟨#[]⟩, .slice none 0 0, .slice none 0 0], .bool (decide (i < 2147483648))]) (by simp [results, Tryz.results24, go_sem, hoff, e0, e1, e2, e3, e4, e5, e6]) rfl ?_
    exact ⟨foLeaf (by first | exact (kept7 hK2 (.inl (by omega)) _ _ _ _ _ _ _).drew | exact kept7 hK2.drew (.inl (by omega)) _ _ _ _ _ _ _) (⟨⟨by omega, by omega⟩, ⟨i1, i2⟩, ⟨by omega, by omega⟩, by omega, Nat.zero_le _⟩) (fun _ => ⟨⟨HO.out, by omega, by omega, by omega, by omega, by omega, by omega⟩, onlyNil HO.out (by decide)⟩) (by decide), _, rfl⟩
  · have zi : decide (-2147483648 ≤ i) = false := by simp; omega
    refine ⟨false, ?_⟩
    intro ka kc a cap w hkw hn
    have ht := ht0.kept hkw hN0 (by simp)
    have hN : N ≤ w.heap.size := Nat.le_trans hN0 hkw.size
    have hfld := hn.fld
    obtain ⟨⟨k1, k2⟩, ⟨i1, i2⟩, ⟨g1, g2⟩, r1, s1⟩ := hn.fld
    have hlk1 : keys.length ≤ 140737488351232 := by have := hn.keys.2.1; omega
    have hlk2 : kids.len ≤ 140737488351232 := by have := hn.kids.2.1; omega
    obtain ⟨w0, hw0⟩ : ∃ w0, w0 = (w.alloc (.cells #[.int .i64 2, .int .i64 i, .int .i64 g, .float .f64 r, .string s, .slice ka keys.length kc, .slice a kids.len cap] 26)).alloc (.cells #[.int .i64 0, .int .i64 0, .int .i64 0, .float .f64 0, .string ⟨#[]⟩, .slice none 0 0, .slice none 0 0] 31) := ⟨_, rfl⟩
    have hK0 : Kept [] w w0 := by rw [hw0]; exact ((Kept.refl [] w).alloc _).alloc _
    have hs0 : w0.heap.size = w.heap.size + 2 := by rw [hw0]; simp
    have hX1 : w0.heap[w.heap.size]? = some (.cells #[.int .i64 2, .int .i64 i, .int .i64 g, .float .f64 r, .string s, .slice ka keys.length kc, .slice a kids.len cap] 26 (0, 0)) := by
      rw [hw0, heap_lt (by simp)]; exact heap_at rfl
    have hX2 : w0.heap[w.heap.size + 1]? = some (.cells #[.int .i64 0, .int .i64 0, .int .i64 0, .float .f64 0, .string ⟨#[]⟩, .slice none 0 0, .slice none 0 0] 31 (0, 0)) := by
      rw [hw0]; exact heap_at (by simp)
    have hS0 : w.heap.size + 1 < w0.heap.size := by omega
    have HN := Lib.hid hn; clear hn hs0
    go_enter Tryz.func24, Tryz.ntmps24
    go_wp2_with fail
    rw [← hw0]
    refine (onlywF 2 i g r s ka keys.length kc a kids.len cap w0 hfld hlk1 hlk2).mono ?_
    rintro e w1 ⟨rfl, hK1⟩
    rw [HON.out]
    have hK2 : Kept [] w w1 := Kept.trans hK0 hK1 (by simp) (by simp)
    have hX1' := (hK1.block w.heap.size (by omega) (by simp)).trans hX1
    have hX2' := (hK1.block (w.heap.size + 1) (by omega) (by simp)).trans hX2
    have hS1 : w.heap.size + 1 < w1.heap.size := Nat.lt_of_lt_of_le hS0 hK1.size
    have hS2 : w.heap.size < w1.heap.size := by omega
    obtain ⟨⟨c0, c1, c2, c3, c4, c5, c6⟩, _⟩ := seven hX1'
    obtain ⟨⟨e0, e1, e2, e3, e4, e5, e6⟩, p0, p1, p2, p3, p4, p5, p6⟩ := seven hX2'
    have hoff := cell_set_off
    have r0 := fun (X : World) (i j : Nat) (u : Value) => cell_set_other (show w.heap.size + 1 ≠ w.heap.size by omega) i j X u
    clear hw0 hK0 hX1 hX2 hS0 hK1
    have HX1 := Lib.hid hX1'; have HX2 := Lib.hid hX2'; clear hX1' hX2'
    go_wp2_with fail
    go_region
    go_wp2_with fail
    refine bodyPost_ret (v := .tuple #[.agg #[.int .i64 2, .int .i64 i, .int .i64 0, .float .f64 0, .string ⟨#[]⟩, .slice none 0 0, .slice none 0 0], .bool false]) (by simp [results, Tryz.results24, go_sem, hoff, e0, e1, e2, e3, e4, e5, e6]) rfl ?_
    exact ⟨foLeaf (by first | exact (kept7 hK2 (.inl (by omega)) _ _ _ _ _ _ _).drew | exact kept7 hK2.drew (.inl (by omega)) _ _ _ _ _ _ _) (⟨⟨by omega, by omega⟩, ⟨i1, i2⟩, ⟨by omega, by omega⟩, by omega, Nat.zero_le _⟩) (fun h => by cases h) (by decide), _, rfl⟩
set_option maxRecDepth 100000 in
set_option maxHeartbeats 8000000 in
theorem fo4F (N : Nat) (W0 : World) (ht0 : Tb N W0) (hN0 : N ≤ W0.heap.size) (i g : Int) (r : Nat) (s : ByteArray) (keys : List ByteArray) (kids : F) : FoF N W0 4 i g r s keys kids := by
  cases hon : onlyB 4 i g r s keys.length kids.len
  · refine ⟨false, ?_⟩
    have HON := Lib.hid hon; clear hon
    intro ka kc a cap w hkw hn
    have ht := ht0.kept hkw hN0 (by simp)
    have hN : N ≤ w.heap.size := Nat.le_trans hN0 hkw.size
    have hfld := hn.fld
    obtain ⟨⟨k1, k2⟩, ⟨i1, i2⟩, ⟨g1, g2⟩, r1, s1⟩ := hn.fld
    have hlk1 : keys.length ≤ 140737488351232 := by have := hn.keys.2.1; omega
    have hlk2 : kids.len ≤ 140737488351232 := by have := hn.kids.2.1; omega
    obtain ⟨w0, hw0⟩ : ∃ w0, w0 = (w.alloc (.cells #[.int .i64 4, .int .i64 i, .int .i64 g, .float .f64 r, .string s, .slice ka keys.length kc, .slice a kids.len cap] 26)).alloc (.cells #[.int .i64 0, .int .i64 0, .int .i64 0, .float .f64 0, .string ⟨#[]⟩, .slice none 0 0, .slice none 0 0] 31) := ⟨_, rfl⟩
    have hK0 : Kept [] w w0 := by rw [hw0]; exact ((Kept.refl [] w).alloc _).alloc _
    have hs0 : w0.heap.size = w.heap.size + 2 := by rw [hw0]; simp
    have hX1 : w0.heap[w.heap.size]? = some (.cells #[.int .i64 4, .int .i64 i, .int .i64 g, .float .f64 r, .string s, .slice ka keys.length kc, .slice a kids.len cap] 26 (0, 0)) := by
      rw [hw0, heap_lt (by simp)]; exact heap_at rfl
    have hX2 : w0.heap[w.heap.size + 1]? = some (.cells #[.int .i64 0, .int .i64 0, .int .i64 0, .float .f64 0, .string ⟨#[]⟩, .slice none 0 0, .slice none 0 0] 31 (0, 0)) := by
      rw [hw0]; exact heap_at (by simp)
    have hS0 : w.heap.size + 1 < w0.heap.size := by omega
    have HN := Lib.hid hn; clear hn hs0
    go_enter Tryz.func24, Tryz.ntmps24
    go_wp2_with fail
    rw [← hw0]
    refine (onlywF 4 i g r s ka keys.length kc a kids.len cap w0 hfld hlk1 hlk2).mono ?_
    rintro e w1 ⟨rfl, hK1⟩
    rw [HON.out]
    have hK2 : Kept [] w w1 := Kept.trans hK0 hK1 (by simp) (by simp)
    have hX1' := (hK1.block w.heap.size (by omega) (by simp)).trans hX1
    have hX2' := (hK1.block (w.heap.size + 1) (by omega) (by simp)).trans hX2
    have hS1 : w.heap.size + 1 < w1.heap.size := Nat.lt_of_lt_of_le hS0 hK1.size
    have hS2 : w.heap.size < w1.heap.size := by omega
    obtain ⟨⟨c0, c1, c2, c3, c4, c5, c6⟩, _⟩ := seven hX1'
    obtain ⟨⟨e0, e1, e2, e3, e4, e5, e6⟩, p0, p1, p2, p3, p4, p5, p6⟩ := seven hX2'
    have hoff := cell_set_off
    have r0 := fun (X : World) (i j : Nat) (u : Value) => cell_set_other (show w.heap.size + 1 ≠ w.heap.size by omega) i j X u
    clear hw0 hK0 hX1 hX2 hS0 hK1
    have HX1 := Lib.hid hX1'; have HX2 := Lib.hid hX2'; clear hX1' hX2'
    go_wp2_with fail
    refine bodyPost_ret (v := .tuple #[.agg #[.int .i64 0, .int .i64 0, .int .i64 0, .float .f64 0, .string ⟨#[]⟩, .slice none 0 0, .slice none 0 0], .bool false]) (by simp [results, Tryz.results24, go_sem, hoff, e0, e1, e2, e3, e4, e5, e6]) rfl ?_
    exact ⟨foNo (kept7 hK2 (.inl (by omega)) _ _ _ _ _ _ _), _, (by first | rfl | (rw [FL.out]; done) | (rw [FL.out]; rfl))⟩
  have ho := onlyB_true.1 hon
  have HON := Lib.hid hon; clear hon
  have HO := Lib.hid ho; clear ho
  by_cases hs9 : s.size ≤ 140737488351232
  · obtain ⟨b, hB⟩ := litbF s (by omega)
    refine ⟨b, ?_⟩
    have HB := Lib.hid hB; clear hB
    intro ka kc a cap w hkw hn
    have ht := ht0.kept hkw hN0 (by simp)
    have hN : N ≤ w.heap.size := Nat.le_trans hN0 hkw.size
    have hfld := hn.fld
    obtain ⟨⟨k1, k2⟩, ⟨i1, i2⟩, ⟨g1, g2⟩, r1, s1⟩ := hn.fld
    have hlk1 : keys.length ≤ 140737488351232 := by have := hn.keys.2.1; omega
    have hlk2 : kids.len ≤ 140737488351232 := by have := hn.kids.2.1; omega
    obtain ⟨w0, hw0⟩ : ∃ w0, w0 = (w.alloc (.cells #[.int .i64 4, .int .i64 i, .int .i64 g, .float .f64 r, .string s, .slice ka keys.length kc, .slice a kids.len cap] 26)).alloc (.cells #[.int .i64 0, .int .i64 0, .int .i64 0, .float .f64 0, .string ⟨#[]⟩, .slice none 0 0, .slice none 0 0] 31) := ⟨_, rfl⟩
    have hK0 : Kept [] w w0 := by rw [hw0]; exact ((Kept.refl [] w).alloc _).alloc _
    have hs0 : w0.heap.size = w.heap.size + 2 := by rw [hw0]; simp
    have hX1 : w0.heap[w.heap.size]? = some (.cells #[.int .i64 4, .int .i64 i, .int .i64 g, .float .f64 r, .string s, .slice ka keys.length kc, .slice a kids.len cap] 26 (0, 0)) := by
      rw [hw0, heap_lt (by simp)]; exact heap_at rfl
    have hX2 : w0.heap[w.heap.size + 1]? = some (.cells #[.int .i64 0, .int .i64 0, .int .i64 0, .float .f64 0, .string ⟨#[]⟩, .slice none 0 0, .slice none 0 0] 31 (0, 0)) := by
      rw [hw0]; exact heap_at (by simp)
    have hS0 : w.heap.size + 1 < w0.heap.size := by omega
    have HN := Lib.hid hn; clear hn hs0
    go_enter Tryz.func24, Tryz.ntmps24
    go_wp2_with fail
    rw [← hw0]
    refine (onlywF 4 i g r s ka keys.length kc a kids.len cap w0 hfld hlk1 hlk2).mono ?_
    rintro e w1 ⟨rfl, hK1⟩
    rw [HON.out]
    have hK2 : Kept [] w w1 := Kept.trans hK0 hK1 (by simp) (by simp)
    have hX1' := (hK1.block w.heap.size (by omega) (by simp)).trans hX1
    have hX2' := (hK1.block (w.heap.size + 1) (by omega) (by simp)).trans hX2
    have hS1 : w.heap.size + 1 < w1.heap.size := Nat.lt_of_lt_of_le hS0 hK1.size
    have hS2 : w.heap.size < w1.heap.size := by omega
    obtain ⟨⟨c0, c1, c2, c3, c4, c5, c6⟩, _⟩ := seven hX1'
    obtain ⟨⟨e0, e1, e2, e3, e4, e5, e6⟩, p0, p1, p2, p3, p4, p5, p6⟩ := seven hX2'
    have hoff := cell_set_off
    have r0 := fun (X : World) (i j : Nat) (u : Value) => cell_set_other (show w.heap.size + 1 ≠ w.heap.size by omega) i j X u
    clear hw0 hK0 hX1 hX2 hS0 hK1
    have HX1 := Lib.hid hX1'; have HX2 := Lib.hid hX2'; clear hX1' hX2'
    go_wp2_with fail
    refine (HB.out w1).mono ?_
    rintro e w3 ⟨⟨str, rfl, hss⟩, hK3⟩
    have hX2'' := (hK3.block (w.heap.size + 1) hS1 (by simp)).trans HX2.out
    clear c0 c1 c2 c3 c4 c5 c6 e0 e1 e2 e3 e4 e5 e6 p0 p1 p2 p3 p4 p5 p6 r0
    obtain ⟨⟨e0, e1, e2, e3, e4, e5, e6⟩, p0, p1, p2, p3, p4, p5, p6⟩ := seven hX2''
    clear hX2''
    have hK4 := Kept.trans (Z := []) hK2 hK3 (by simp) (by simp)
    go_wp2_with fail
    refine bodyPost_ret (v := .tuple #[.agg #[.int .i64 4, .int .i64 0, .int .i64 0, .float .f64 0, .string str, .slice none 0 0, .slice none 0 0], .bool b]) (by simp [results, Tryz.results24, go_sem, hoff, e0, e1, e2, e3, e4, e5, e6]) rfl ?_
    exact ⟨foLeaf (kept7 hK4 (.inl (by omega)) _ _ _ _ _ _ _) (⟨⟨by omega, by omega⟩, ⟨by omega, by omega⟩, ⟨by omega, by omega⟩, by omega, by omega⟩) (fun _ => ⟨⟨HO.out, by omega, by omega, by omega, by omega, by omega, by omega⟩, onlyNil HO.out (by decide)⟩) (by decide), _, rfl⟩
  · exact ⟨true, fun ka kc a cap w hkw hn => absurd hn.fld.s hs9⟩
set_option maxRecDepth 100000 in
set_option maxHeartbeats 8000000 in
theorem fo5F (N : Nat) (W0 : World) (ht0 : Tb N W0) (hN0 : N ≤ W0.heap.size) (i g : Int) (r : Nat) (s : ByteArray) (keys : List ByteArray) (kids : F) : FoF N W0 5 i g r s keys kids := by
  cases hon : onlyB 5 i g r s keys.length kids.len
  · refine ⟨false, ?_⟩
    have HON := Lib.hid hon; clear hon
    intro ka kc a cap w hkw hn
    have ht := ht0.kept hkw hN0 (by simp)
    have hN : N ≤ w.heap.size := Nat.le_trans hN0 hkw.size
    have hfld := hn.fld
    obtain ⟨⟨k1, k2⟩, ⟨i1, i2⟩, ⟨g1, g2⟩, r1, s1⟩ := hn.fld
    have hlk1 : keys.length ≤ 140737488351232 := by have := hn.keys.2.1; omega
    have hlk2 : kids.len ≤ 140737488351232 := by have := hn.kids.2.1; omega
    obtain ⟨w0, hw0⟩ : ∃ w0, w0 = (w.alloc (.cells #[.int .i64 5, .int .i64 i, .int .i64 g, .float .f64 r, .string s, .slice ka keys.length kc, .slice a kids.len cap] 26)).alloc (.cells #[.int .i64 0, .int .i64 0, .int .i64 0, .float .f64 0, .string ⟨#[]⟩, .slice none 0 0, .slice none 0 0] 31) := ⟨_, rfl⟩
    have hK0 : Kept [] w w0 := by rw [hw0]; exact ((Kept.refl [] w).alloc _).alloc _
    have hs0 : w0.heap.size = w.heap.size + 2 := by rw [hw0]; simp
    have hX1 : w0.heap[w.heap.size]? = some (.cells #[.int .i64 5, .int .i64 i, .int .i64 g, .float .f64 r, .string s, .slice ka keys.length kc, .slice a kids.len cap] 26 (0, 0)) := by
      rw [hw0, heap_lt (by simp)]; exact heap_at rfl
    have hX2 : w0.heap[w.heap.size + 1]? = some (.cells #[.int .i64 0, .int .i64 0, .int .i64 0, .float .f64 0, .string ⟨#[]⟩, .slice none 0 0, .slice none 0 0] 31 (0, 0)) := by
      rw [hw0]; exact heap_at (by simp)
    have hS0 : w.heap.size + 1 < w0.heap.size := by omega
    have HN := Lib.hid hn; clear hn hs0
    go_enter Tryz.func24, Tryz.ntmps24
    go_wp2_with fail
    rw [← hw0]
    refine (onlywF 5 i g r s ka keys.length kc a kids.len cap w0 hfld hlk1 hlk2).mono ?_
    rintro e w1 ⟨rfl, hK1⟩
    rw [HON.out]
    have hK2 : Kept [] w w1 := Kept.trans hK0 hK1 (by simp) (by simp)
    have hX1' := (hK1.block w.heap.size (by omega) (by simp)).trans hX1
    have hX2' := (hK1.block (w.heap.size + 1) (by omega) (by simp)).trans hX2
    have hS1 : w.heap.size + 1 < w1.heap.size := Nat.lt_of_lt_of_le hS0 hK1.size
    have hS2 : w.heap.size < w1.heap.size := by omega
    obtain ⟨⟨c0, c1, c2, c3, c4, c5, c6⟩, _⟩ := seven hX1'
    obtain ⟨⟨e0, e1, e2, e3, e4, e5, e6⟩, p0, p1, p2, p3, p4, p5, p6⟩ := seven hX2'
    have hoff := cell_set_off
    have r0 := fun (X : World) (i j : Nat) (u : Value) => cell_set_other (show w.heap.size + 1 ≠ w.heap.size by omega) i j X u
    clear hw0 hK0 hX1 hX2 hS0 hK1
    have HX1 := Lib.hid hX1'; have HX2 := Lib.hid hX2'; clear hX1' hX2'
    go_wp2_with fail
    refine bodyPost_ret (v := .tuple #[.agg #[.int .i64 0, .int .i64 0, .int .i64 0, .float .f64 0, .string ⟨#[]⟩, .slice none 0 0, .slice none 0 0], .bool false]) (by simp [results, Tryz.results24, go_sem, hoff, e0, e1, e2, e3, e4, e5, e6]) rfl ?_
    exact ⟨foNo (kept7 hK2 (.inl (by omega)) _ _ _ _ _ _ _), _, (by first | rfl | (rw [FL.out]; done) | (rw [FL.out]; rfl))⟩
  have ho := onlyB_true.1 hon
  have HON := Lib.hid hon; clear hon
  have HO := Lib.hid ho; clear ho
  by_cases hs9 : s.size ≤ 140737488351232
  · obtain ⟨b, hB⟩ := hexbF s (by omega)
    refine ⟨b, ?_⟩
    have HB := Lib.hid hB; clear hB
    intro ka kc a cap w hkw hn
    have ht := ht0.kept hkw hN0 (by simp)
    have hN : N ≤ w.heap.size := Nat.le_trans hN0 hkw.size
    have hfld := hn.fld
    obtain ⟨⟨k1, k2⟩, ⟨i1, i2⟩, ⟨g1, g2⟩, r1, s1⟩ := hn.fld
    have hlk1 : keys.length ≤ 140737488351232 := by have := hn.keys.2.1; omega
    have hlk2 : kids.len ≤ 140737488351232 := by have := hn.kids.2.1; omega
    obtain ⟨w0, hw0⟩ : ∃ w0, w0 = (w.alloc (.cells #[.int .i64 5, .int .i64 i, .int .i64 g, .float .f64 r, .string s, .slice ka keys.length kc, .slice a kids.len cap] 26)).alloc (.cells #[.int .i64 0, .int .i64 0, .int .i64 0, .float .f64 0, .string ⟨#[]⟩, .slice none 0 0, .slice none 0 0] 31) := ⟨_, rfl⟩
    have hK0 : Kept [] w w0 := by rw [hw0]; exact ((Kept.refl [] w).alloc _).alloc _
    have hs0 : w0.heap.size = w.heap.size + 2 := by rw [hw0]; simp
    have hX1 : w0.heap[w.heap.size]? = some (.cells #[.int .i64 5, .int .i64 i, .int .i64 g, .float .f64 r, .string s, .slice ka keys.length kc, .slice a kids.len cap] 26 (0, 0)) := by
      rw [hw0, heap_lt (by simp)]; exact heap_at rfl
    have hX2 : w0.heap[w.heap.size + 1]? = some (.cells #[.int .i64 0, .int .i64 0, .int .i64 0, .float .f64 0, .string ⟨#[]⟩, .slice none 0 0, .slice none 0 0] 31 (0, 0)) := by
      rw [hw0]; exact heap_at (by simp)
    have hS0 : w.heap.size + 1 < w0.heap.size := by omega
    have HN := Lib.hid hn; clear hn hs0
    go_enter Tryz.func24, Tryz.ntmps24
    go_wp2_with fail
    rw [← hw0]
    refine (onlywF 5 i g r s ka keys.length kc a kids.len cap w0 hfld hlk1 hlk2).mono ?_
    rintro e w1 ⟨rfl, hK1⟩
    rw [HON.out]
    have hK2 : Kept [] w w1 := Kept.trans hK0 hK1 (by simp) (by simp)
    have hX1' := (hK1.block w.heap.size (by omega) (by simp)).trans hX1
    have hX2' := (hK1.block (w.heap.size + 1) (by omega) (by simp)).trans hX2
    have hS1 : w.heap.size + 1 < w1.heap.size := Nat.lt_of_lt_of_le hS0 hK1.size
    have hS2 : w.heap.size < w1.heap.size := by omega
    obtain ⟨⟨c0, c1, c2, c3, c4, c5, c6⟩, _⟩ := seven hX1'
    obtain ⟨⟨e0, e1, e2, e3, e4, e5, e6⟩, p0, p1, p2, p3, p4, p5, p6⟩ := seven hX2'
    have hoff := cell_set_off
    have r0 := fun (X : World) (i j : Nat) (u : Value) => cell_set_other (show w.heap.size + 1 ≠ w.heap.size by omega) i j X u
    clear hw0 hK0 hX1 hX2 hS0 hK1
    have HX1 := Lib.hid hX1'; have HX2 := Lib.hid hX2'; clear hX1' hX2'
    go_wp2_with fail
    refine (HB.out w1).mono ?_
    rintro e w3 ⟨⟨str, rfl, hss⟩, hK3⟩
    have hX2'' := (hK3.block (w.heap.size + 1) hS1 (by simp)).trans HX2.out
    clear c0 c1 c2 c3 c4 c5 c6 e0 e1 e2 e3 e4 e5 e6 p0 p1 p2 p3 p4 p5 p6 r0
    obtain ⟨⟨e0, e1, e2, e3, e4, e5, e6⟩, p0, p1, p2, p3, p4, p5, p6⟩ := seven hX2''
    clear hX2''
    have hK4 := Kept.trans (Z := []) hK2 hK3 (by simp) (by simp)
    go_wp2_with fail
    refine bodyPost_ret (v := .tuple #[.agg #[.int .i64 4, .int .i64 0, .int .i64 0, .float .f64 0, .string str, .slice none 0 0, .slice none 0 0], .bool b]) (by simp [results, Tryz.results24, go_sem, hoff, e0, e1, e2, e3, e4, e5, e6]) rfl ?_
    exact ⟨foLeaf (kept7 hK4 (.inl (by omega)) _ _ _ _ _ _ _) (⟨⟨by omega, by omega⟩, ⟨by omega, by omega⟩, ⟨by omega, by omega⟩, by omega, by omega⟩) (fun _ => ⟨⟨HO.out, by omega, by omega, by omega, by omega, by omega, by omega⟩, onlyNil HO.out (by decide)⟩) (by decide), _, rfl⟩
  · exact ⟨true, fun ka kc a cap w hkw hn => absurd hn.fld.s hs9⟩
set_option maxRecDepth 100000 in
set_option maxHeartbeats 8000000 in
theorem foXF (N : Nat) (W0 : World) (ht0 : Tb N W0) (hN0 : N ≤ W0.heap.size) (k : Int) (hk : k < 0 ∨ 9 < k) (i g : Int) (r : Nat) (s : ByteArray) (keys : List ByteArray) (kids : F) : FoF N W0 k i g r s keys kids := by
  cases hon : onlyB k i g r s keys.length kids.len
  · refine ⟨false, ?_⟩
    have HON := Lib.hid hon; clear hon
    intro ka kc a cap w hkw hn
    have ht := ht0.kept hkw hN0 (by simp)
    have hN : N ≤ w.heap.size := Nat.le_trans hN0 hkw.size
    have hfld := hn.fld
    obtain ⟨⟨k1, k2⟩, ⟨i1, i2⟩, ⟨g1, g2⟩, r1, s1⟩ := hn.fld
    have hlk1 : keys.length ≤ 140737488351232 := by have := hn.keys.2.1; omega
    have hlk2 : kids.len ≤ 140737488351232 := by have := hn.kids.2.1; omega
    obtain ⟨w0, hw0⟩ : ∃ w0, w0 = (w.alloc (.cells #[.int .i64 k, .int .i64 i, .int .i64 g, .float .f64 r, .string s, .slice ka keys.length kc, .slice a kids.len cap] 26)).alloc (.cells #[.int .i64 0, .int .i64 0, .int .i64 0, .float .f64 0, .string ⟨#[]⟩, .slice none 0 0, .slice none 0 0] 31) := ⟨_, rfl⟩
    have hK0 : Kept [] w w0 := by rw [hw0]; exact ((Kept.refl [] w).alloc _).alloc _
    have hs0 : w0.heap.size = w.heap.size + 2 := by rw [hw0]; simp
    have hX1 : w0.heap[w.heap.size]? = some (.cells #[.int .i64 k, .int .i64 i, .int .i64 g, .float .f64 r, .string s, .slice ka keys.length kc, .slice a kids.len cap] 26 (0, 0)) := by
      rw [hw0, heap_lt (by simp)]; exact heap_at rfl
    have hX2 : w0.heap[w.heap.size + 1]? = some (.cells #[.int .i64 0, .int .i64 0, .int .i64 0, .float .f64 0, .string ⟨#[]⟩, .slice none 0 0, .slice none 0 0] 31 (0, 0)) := by
      rw [hw0]; exact heap_at (by simp)
    have hS0 : w.heap.size + 1 < w0.heap.size := by omega
    have HN := Lib.hid hn; clear hn hs0
    go_enter Tryz.func24, Tryz.ntmps24
    go_wp2_with fail
    rw [← hw0]
    refine (onlywF k i g r s ka keys.length kc a kids.len cap w0 hfld hlk1 hlk2).mono ?_
    rintro e w1 ⟨rfl, hK1⟩
    rw [HON.out]
    have hK2 : Kept [] w w1 := Kept.trans hK0 hK1 (by simp) (by simp)
    have hX1' := (hK1.block w.heap.size (by omega) (by simp)).trans hX1
    have hX2' := (hK1.block (w.heap.size + 1) (by omega) (by simp)).trans hX2
    have hS1 : w.heap.size + 1 < w1.heap.size := Nat.lt_of_lt_of_le hS0 hK1.size
    have hS2 : w.heap.size < w1.heap.size := by omega
    obtain ⟨⟨c0, c1, c2, c3, c4, c5, c6⟩, _⟩ := seven hX1'
    obtain ⟨⟨e0, e1, e2, e3, e4, e5, e6⟩, p0, p1, p2, p3, p4, p5, p6⟩ := seven hX2'
    have hoff := cell_set_off
    have r0 := fun (X : World) (i j : Nat) (u : Value) => cell_set_other (show w.heap.size + 1 ≠ w.heap.size by omega) i j X u
    clear hw0 hK0 hX1 hX2 hS0 hK1
    have HX1 := Lib.hid hX1'; have HX2 := Lib.hid hX2'; clear hX1' hX2'
    go_wp2_with fail
    refine bodyPost_ret (v := .tuple #[.agg #[.int .i64 0, .int .i64 0, .int .i64 0, .float .f64 0, .string ⟨#[]⟩, .slice none 0 0, .slice none 0 0], .bool false]) (by simp [results, Tryz.results24, go_sem, hoff, e0, e1, e2, e3, e4, e5, e6]) rfl ?_
    exact ⟨foNo (kept7 hK2 (.inl (by omega)) _ _ _ _ _ _ _), _, (by first | rfl | (rw [FL.out]; done) | (rw [FL.out]; rfl))⟩
  have ho := onlyB_true.1 hon
  have HON := Lib.hid hon; clear hon
  have HO := Lib.hid ho; clear ho
  refine ⟨false, ?_⟩
  have z0 : (k == 0) = false := beq_eq_false_iff_ne.2 (by omega)
  have z1 : (k == 1) = false := beq_eq_false_iff_ne.2 (by omega)
  have z2 : (k == 2) = false := beq_eq_false_iff_ne.2 (by omega)
  have z3 : (k == 3) = false := beq_eq_false_iff_ne.2 (by omega)
  have z4 : (k == 4) = false := beq_eq_false_iff_ne.2 (by omega)
  have z5 : (k == 5) = false := beq_eq_false_iff_ne.2 (by omega)
  have z6 : (k == 6) = false := beq_eq_false_iff_ne.2 (by omega)
  have z7 : (k == 7) = false := beq_eq_false_iff_ne.2 (by omega)
  have z8 : (k == 8) = false := beq_eq_false_iff_ne.2 (by omega)
  have z9 : (k == 9) = false := beq_eq_false_iff_ne.2 (by omega)
  intro ka kc a cap w hkw hn
  have ht := ht0.kept hkw hN0 (by simp)
  have hN : N ≤ w.heap.size := Nat.le_trans hN0 hkw.size
  have hfld := hn.fld
  obtain ⟨⟨k1, k2⟩, ⟨i1, i2⟩, ⟨g1, g2⟩, r1, s1⟩ := hn.fld
  have hlk1 : keys.length ≤ 140737488351232 := by have := hn.keys.2.1; omega
  have hlk2 : kids.len ≤ 140737488351232 := by have := hn.kids.2.1; omega
  obtain ⟨w0, hw0⟩ : ∃ w0, w0 = (w.alloc (.cells #[.int .i64 k, .int .i64 i, .int .i64 g, .float .f64 r, .string s, .slice ka keys.length kc, .slice a kids.len cap] 26)).alloc (.cells #[.int .i64 0, .int .i64 0, .int .i64 0, .float .f64 0, .string ⟨#[]⟩, .slice none 0 0, .slice none 0 0] 31) := ⟨_, rfl⟩
  have hK0 : Kept [] w w0 := by rw [hw0]; exact ((Kept.refl [] w).alloc _).alloc _
  have hs0 : w0.heap.size = w.heap.size + 2 := by rw [hw0]; simp
  have hX1 : w0.heap[w.heap.size]? = some (.cells #[.int .i64 k, .int .i64 i, .int .i64 g, .float .f64 r, .string s, .slice ka keys.length kc, .slice a kids.len cap] 26 (0, 0)) := by
    rw [hw0, heap_lt (by simp)]; exact heap_at rfl
  have hX2 : w0.heap[w.heap.size + 1]? = some (.cells #[.int .i64 0, .int .i64 0, .int .i64 0, .float .f64 0, .string ⟨#[]⟩, .slice none 0 0, .slice none 0 0] 31 (0, 0)) := by
    rw [hw0]; exact heap_at (by simp)
  have hS0 : w.heap.size + 1 < w0.heap.size := by omega
  have HN := Lib.hid hn; clear hn hs0
  go_enter Tryz.func24, Tryz.ntmps24
  go_wp2_with fail
  rw [← hw0]
  refine (onlywF k i g r s ka keys.length kc a kids.len cap w0 hfld hlk1 hlk2).mono ?_
  rintro e w1 ⟨rfl, hK1⟩
  rw [HON.out]
  have hK2 : Kept [] w w1 := Kept.trans hK0 hK1 (by simp) (by simp)
  have hX1' := (hK1.block w.heap.size (by omega) (by simp)).trans hX1
  have hX2' := (hK1.block (w.heap.size + 1) (by omega) (by simp)).trans hX2
  have hS1 : w.heap.size + 1 < w1.heap.size := Nat.lt_of_lt_of_le hS0 hK1.size
  have hS2 : w.heap.size < w1.heap.size := by omega
  obtain ⟨⟨c0, c1, c2, c3, c4, c5, c6⟩, _⟩ := seven hX1'
  obtain ⟨⟨e0, e1, e2, e3, e4, e5, e6⟩, p0, p1, p2, p3, p4, p5, p6⟩ := seven hX2'
  have hoff := cell_set_off
  have r0 := fun (X : World) (i j : Nat) (u : Value) => cell_set_other (show w.heap.size + 1 ≠ w.heap.size by omega) i j X u
  clear hw0 hK0 hX1 hX2 hS0 hK1
  have HX1 := Lib.hid hX1'; have HX2 := Lib.hid hX2'; clear hX1' hX2'
  go_wp2_with fail
  refine bodyPost_ret (v := .tuple #[.agg #[.int .i64 0, .int .i64 0, .int .i64 0, .float .f64 0, .string ⟨#[]⟩, .slice none 0 0, .slice none 0 0], .bool false]) (by simp [results, Tryz.results24, go_sem, hoff, e0, e1, e2, e3, e4, e5, e6]) rfl ?_
  exact ⟨foNo (kept7 hK2 (.inl (by omega)) _ _ _ _ _ _ _), _, rfl⟩
end Go.Proofs.YtfkecmlmnhbmoaaGreatDoor
