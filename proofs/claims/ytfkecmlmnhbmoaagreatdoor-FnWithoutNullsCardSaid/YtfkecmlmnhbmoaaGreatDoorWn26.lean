import Derived.Test.YtfkecmlmnhbmoaaGreatDoorWn25
import Derived.BigRegion
import Derived.Deep.RegionWith
import Derived.Deep.RegionHeld3
namespace Go.Proofs.YtfkecmlmnhbmoaaGreatDoor
open Go.RowKit
theorem leafNode {P : Nat → Prop} {w : World} {k i g : Int} {r : Nat} {s : ByteArray} (h : Fld k i g r s) : Node P w k i g r s [] .nil none 0 none 0 :=
  ⟨h, ⟨by simp, by simp, fun i hi => by simp at hi⟩, ⟨by simp [F.len], by simp [F.len], .inl rfl⟩⟩
theorem foNo {N : Nat} {w w' : World} {k i g : Int} {r : Nat} {s : ByteArray} {keys : List ByteArray} {kids : F} (hK : Kept [] w w') : FoE N w k i g r s keys kids (.returned (.tuple #[.agg #[.int .i64 0, .int .i64 0, .int .i64 0, .float .f64 0, .string ⟨#[]⟩, .slice none 0 0, .slice none 0 0], .bool false])) w' :=
  ⟨hK, 0, 0, 0, 0, ⟨#[]⟩, none, 0, 0, none, 0, 0, false, rfl, (fun h => by cases h), fun _ => ⟨[], .nil, rfl, rfl, leafNode ⟨⟨by decide, by decide⟩, ⟨by decide, by decide⟩, ⟨by decide, by decide⟩, by decide, by decide⟩⟩⟩
/-- A value without parts. -/
theorem foLeaf {N : Nat} {w w' : World} {k i g k' i' g' : Int} {r r' : Nat} {s s' : ByteArray} {keys : List ByteArray} {kids : F} {b : Bool} (hK : Kept [] w w') (hf : Fld k' i' g' r' s') (hg : b = true → Good1 k i g r s keys kids ∧ kids = .nil) (hk : (k = 0 ↔ k' = 0) ∧ k ≠ 8) :
    FoE N w k i g r s keys kids (.returned (.tuple #[.agg #[.int .i64 k', .int .i64 i', .int .i64 g', .float .f64 r', .string s', .slice none 0 0, .slice none 0 0], .bool b])) w' :=
  ⟨hK, k', i', g', r', s', none, 0, 0, none, 0, 0, b, rfl, fun hb => by
    obtain ⟨h1, rfl⟩ := hg hb
    exact ⟨h1, trivial, [], .nil, rfl, rfl, leafNode hf, ⟨hk.1, fun h => absurd h hk.2⟩, trivial⟩, fun _ => ⟨[], .nil, rfl, rfl, leafNode hf⟩⟩
theorem onlyNil {k i g : Int} {r : Nat} {s : ByteArray} {nk : Nat} {kids : F} (h : Only k i g r s nk kids.len) (hk : k ≠ 7 ∧ k ≠ 8) : kids = .nil := by
  rcases h.kids with h | h | h
  · exact F.len_zero h
  · exact absurd h hk.1
  · exact absurd h hk.2
set_option maxRecDepth 100000 in
set_option maxHeartbeats 8000000 in
theorem fo0 (i g : Int) (r : Nat) (s : ByteArray) (keys : List ByteArray) (kids : F) : FoC 0 i g r s keys kids := by
  intro N ka kc a cap w hn ht hN
  have hfld := hn.fld
  obtain ⟨⟨k1, k2⟩, ⟨i1, i2⟩, ⟨g1, g2⟩, r1, s1⟩ := hn.fld
  have hlk1 : keys.length ≤ 140737488351232 := by have := hn.keys.2.1; omega
  have hlk2 : kids.len ≤ 140737488351232 := by have := hn.kids.2.1; omega
  obtain ⟨w0, hw0⟩ : ∃ w0, w0 = (w.alloc (.cells #[.int .i64 0, .int .i64 i, .int .i64 g, .float .f64 r, .string s, .slice ka keys.length kc, .slice a kids.len cap] 26)).alloc (.cells #[.int .i64 0, .int .i64 0, .int .i64 0, .float .f64 0, .string ⟨#[]⟩, .slice none 0 0, .slice none 0 0] 31) := ⟨_, rfl⟩
  have hK0 : Kept [] w w0 := by rw [hw0]; exact ((Kept.refl [] w).alloc _).alloc _
  have hs0 : w0.heap.size = w.heap.size + 2 := by rw [hw0]; simp
  have hX1 : w0.heap[w.heap.size]? = some (.cells #[.int .i64 0, .int .i64 i, .int .i64 g, .float .f64 r, .string s, .slice ka keys.length kc, .slice a kids.len cap] 26 (0, 0)) := by
    rw [hw0, heap_lt (by simp)]; exact heap_at rfl
  have hX2 : w0.heap[w.heap.size + 1]? = some (.cells #[.int .i64 0, .int .i64 0, .int .i64 0, .float .f64 0, .string ⟨#[]⟩, .slice none 0 0, .slice none 0 0] 31 (0, 0)) := by
    rw [hw0]; exact heap_at (by simp)
  have hS0 : w.heap.size + 1 < w0.heap.size := by omega
  have HN := Lib.hid hn; clear hn hs0
  go_enter Tryz.func24, Tryz.ntmps24
  go_wp2_with fail
  rw [← hw0]
  refine (onlyw 0 i g r s ka keys.length kc a kids.len cap w0 hfld hlk1 hlk2).mono ?_
  rintro e w1 ⟨⟨b, rfl, hb⟩, hK1⟩
  have hK2 : Kept [] w w1 := Kept.trans hK0 hK1 (by simp) (by simp)
  have hX1' := (hK1.block w.heap.size (by omega) (by simp)).trans hX1
  have hX2' := (hK1.block (w.heap.size + 1) (by omega) (by simp)).trans hX2
  have hS1 : w.heap.size + 1 < w1.heap.size := Nat.lt_of_lt_of_le hS0 hK1.size
  have hS2 : w.heap.size < w1.heap.size := by omega
  obtain ⟨⟨c0, c1, c2, c3, c4, c5, c6⟩, _⟩ := seven hX1'
  obtain ⟨⟨e0, e1, e2, e3, e4, e5, e6⟩, p0, p1, p2, p3, p4, p5, p6⟩ := seven hX2'
  have hoff := cell_set_off
  have r0 := fun (X : World) (i j : Nat) (u : Value) => cell_set_other (show w.heap.size + 1 ≠ w.heap.size by omega) i j X u
  clear hw0 hK0 hX1 hX2 hS0 hK1
  have HX1 := Lib.hid hX1'; have HX2 := Lib.hid hX2'; clear hX1' hX2'
  cases b
  case' false =>
    go_wp2_with fail
    refine bodyPost_ret (v := .tuple #[.agg #[.int .i64 0, .int .i64 0, .int .i64 0, .float .f64 0, .string ⟨#[]⟩, .slice none 0 0, .slice none 0 0], .bool false]) (by simp [results, Tryz.results24, go_sem, hoff, e0, e1, e2, e3, e4, e5, e6]) rfl ?_
    exact foNo (kept7 hK2 (.inl (by omega)) _ _ _ _ _ _ _)
  have ho := hb rfl
  clear hb
  have HO := Lib.hid ho; clear ho
  go_wp2_with fail
  refine bodyPost_ret (v := .tuple #[.agg #[.int .i64 0, .int .i64 0, .int .i64 0, .float .f64 0, .string ⟨#[]⟩, .slice none 0 0, .slice none 0 0], .bool true]) (by simp [results, Tryz.results24, go_sem, hoff, e0, e1, e2, e3, e4, e5, e6]) rfl ?_
  exact foLeaf (kept7 hK2 (.inl (by omega)) _ _ _ _ _ _ _) (⟨⟨by omega, by omega⟩, ⟨by omega, by omega⟩, ⟨by omega, by omega⟩, by omega, Nat.zero_le _⟩) (fun _ => ⟨⟨HO.out, by omega, by omega, by omega, by omega, by omega, by omega⟩, onlyNil HO.out (by decide)⟩) (by decide)
set_option maxRecDepth 100000 in
set_option maxHeartbeats 8000000 in
theorem fo1 (i g : Int) (r : Nat) (s : ByteArray) (keys : List ByteArray) (kids : F) : FoC 1 i g r s keys kids := by
  intro N ka kc a cap w hn ht hN
  have hfld := hn.fld
  obtain ⟨⟨k1, k2⟩, ⟨i1, i2⟩, ⟨g1, g2⟩, r1, s1⟩ := hn.fld
  have hlk1 : keys.length ≤ 140737488351232 := by have := hn.keys.2.1; omega
  have hlk2 : kids.len ≤ 140737488351232 := by have := hn.kids.2.1; omega
  obtain ⟨w0, hw0⟩ : ∃ w0, w0 = (w.alloc (.cells #[.int .i64 1, .int .i64 i, .int .i64 g, .float .f64 r, .string s, .slice ka keys.length kc, .slice a kids.len cap] 26)).alloc (.cells #[.int .i64 0, .int .i64 0, .int .i64 0, .float .f64 0, .string ⟨#[]⟩, .slice none 0 0, .slice none 0 0] 31) := ⟨_, rfl⟩
  have hK0 : Kept [] w w0 := by rw [hw0]; exact ((Kept.refl [] w).alloc _).alloc _
  have hs0 : w0.heap.size = w.heap.size + 2 := by rw [hw0]; simp
  have hX1 : w0.heap[w.heap.size]? = some (.cells #[.int .i64 1, .int .i64 i, .int .i64 g, .float .f64 r, .string s, .slice ka keys.length kc, .slice a kids.len cap] 26 (0, 0)) := by
    rw [hw0, heap_lt (by simp)]; exact heap_at rfl
  have hX2 : w0.heap[w.heap.size + 1]? = some (.cells #[.int .i64 0, .int .i64 0, .int .i64 0, .float .f64 0, .string ⟨#[]⟩, .slice none 0 0, .slice none 0 0] 31 (0, 0)) := by
    rw [hw0]; exact heap_at (by simp)
  have hS0 : w.heap.size + 1 < w0.heap.size := by omega
  have HN := Lib.hid hn; clear hn hs0
  go_enter Tryz.func24, Tryz.ntmps24
  go_wp2_with fail
  rw [← hw0]
  refine (onlyw 1 i g r s ka keys.length kc a kids.len cap w0 hfld hlk1 hlk2).mono ?_
  rintro e w1 ⟨⟨b, rfl, hb⟩, hK1⟩
  have hK2 : Kept [] w w1 := Kept.trans hK0 hK1 (by simp) (by simp)
  have hX1' := (hK1.block w.heap.size (by omega) (by simp)).trans hX1
  have hX2' := (hK1.block (w.heap.size + 1) (by omega) (by simp)).trans hX2
  have hS1 : w.heap.size + 1 < w1.heap.size := Nat.lt_of_lt_of_le hS0 hK1.size
  have hS2 : w.heap.size < w1.heap.size := by omega
  obtain ⟨⟨c0, c1, c2, c3, c4, c5, c6⟩, _⟩ := seven hX1'
  obtain ⟨⟨e0, e1, e2, e3, e4, e5, e6⟩, p0, p1, p2, p3, p4, p5, p6⟩ := seven hX2'
  have hoff := cell_set_off
  have r0 := fun (X : World) (i j : Nat) (u : Value) => cell_set_other (show w.heap.size + 1 ≠ w.heap.size by omega) i j X u
  clear hw0 hK0 hX1 hX2 hS0 hK1
  have HX1 := Lib.hid hX1'; have HX2 := Lib.hid hX2'; clear hX1' hX2'
  cases b
  case' false =>
    go_wp2_with fail
    refine bodyPost_ret (v := .tuple #[.agg #[.int .i64 0, .int .i64 0, .int .i64 0, .float .f64 0, .string ⟨#[]⟩, .slice none 0 0, .slice none 0 0], .bool false]) (by simp [results, Tryz.results24, go_sem, hoff, e0, e1, e2, e3, e4, e5, e6]) rfl ?_
    exact foNo (kept7 hK2 (.inl (by omega)) _ _ _ _ _ _ _)
  have ho := hb rfl
  clear hb
  have HO := Lib.hid ho; clear ho
  by_cases hi : i = 0
  · have zi : (i == 0) = true := beq_iff_eq.2 hi
    have HI := Lib.hid hi; clear hi
    go_wp2_with fail
    go_region
    go_wp2_with fail
    refine bodyPost_ret (v := .tuple #[.agg #[.int .i64 1, .int .i64 i, .int .i64 0, .float .f64 0, .string ⟨#[]⟩, .slice none 0 0, .slice none 0 0], .bool true]) (by simp [results, Tryz.results24, go_sem, hoff, e0, e1, e2, e3, e4, e5, e6]) rfl ?_
    exact foLeaf (by first | exact (kept7 hK2 (.inl (by omega)) _ _ _ _ _ _ _).drew | exact kept7 hK2.drew (.inl (by omega)) _ _ _ _ _ _ _) (⟨⟨by omega, by omega⟩, ⟨i1, i2⟩, ⟨by omega, by omega⟩, by omega, Nat.zero_le _⟩) (fun _ => ⟨⟨HO.out, by omega, by omega, fun _ => .inl HI.out, by omega, by omega, by omega⟩, onlyNil HO.out (by decide)⟩) (by decide)
  · have zi : (i == 0) = false := beq_eq_false_iff_ne.2 hi
    go_wp2_with fail
    go_region
    go_wp2_with fail
    refine bodyPost_ret (v := .tuple #[.agg #[.int .i64 1, .int .i64 i, .int .i64 0, .float .f64 0, .string ⟨#[]⟩, .slice none 0 0, .slice none 0 0], .bool (i == 1)]) (by simp [results, Tryz.results24, go_sem, hoff, e0, e1, e2, e3, e4, e5, e6]) rfl ?_
    exact foLeaf (by first | exact (kept7 hK2 (.inl (by omega)) _ _ _ _ _ _ _).drew | exact kept7 hK2.drew (.inl (by omega)) _ _ _ _ _ _ _) (⟨⟨by omega, by omega⟩, ⟨i1, i2⟩, ⟨by omega, by omega⟩, by omega, Nat.zero_le _⟩) (fun h => ⟨⟨HO.out, by omega, by omega, fun _ => .inr (by simpa using h), by omega, by omega, by omega⟩, onlyNil HO.out (by decide)⟩) (by decide)
set_option maxRecDepth 100000 in
set_option maxHeartbeats 8000000 in
theorem fo2 (i g : Int) (r : Nat) (s : ByteArray) (keys : List ByteArray) (kids : F) : FoC 2 i g r s keys kids := by
  intro N ka kc a cap w hn ht hN
  have hfld := hn.fld
  obtain ⟨⟨k1, k2⟩, ⟨i1, i2⟩, ⟨g1, g2⟩, r1, s1⟩ := hn.fld
  have hlk1 : keys.length ≤ 140737488351232 := by have := hn.keys.2.1; omega
  have hlk2 : kids.len ≤ 140737488351232 := by have := hn.kids.2.1; omega
  obtain ⟨w0, hw0⟩ : ∃ w0, w0 = (w.alloc (.cells #[.int .i64 2, .int .i64 i, .int .i64 g, .float .f64 r, .string s, .slice ka keys.length kc, .slice a kids.len cap] 26)).alloc (.cells #[.int .i64 0, .int .i64 0, .int .i64 0, .float .f64 0, .string ⟨#[]⟩, .slice none 0 0, .slice none 0 0] 31) := ⟨_, rfl⟩
  have hK0 : Kept [] w w0 := by rw [hw0]; exact ((Kept.refl [] w).alloc _).alloc _
  have hs0 : w0.heap.size = w.heap.size + 2 := by rw [hw0]; simp
  have hX1 : w0.heap[w.heap.size]? = some (.cells #[.int .i64 2, .int .i64 i, .int .i64 g, .float .f64 r, .string s, .slice ka keys.length kc, .slice a kids.len cap] 26 (0, 0)) := by
    rw [hw0, heap_lt (by simp)]; exact heap_at rfl
  have hX2 : w0.heap[w.heap.size + 1]? = some (.cells #[.int .i64 0, .int .i64 0, .int .i64 0, .float .f64 0, .string ⟨#[]⟩, .slice none 0 0, .slice none 0 0] 31 (0, 0)) := by
    rw [hw0]; exact heap_at (by simp)
  have hS0 : w.heap.size + 1 < w0.heap.size := by omega
  have HN := Lib.hid hn; clear hn hs0
  go_enter Tryz.func24, Tryz.ntmps24
  go_wp2_with fail
  rw [← hw0]
  refine (onlyw 2 i g r s ka keys.length kc a kids.len cap w0 hfld hlk1 hlk2).mono ?_
  rintro e w1 ⟨⟨b, rfl, hb⟩, hK1⟩
  have hK2 : Kept [] w w1 := Kept.trans hK0 hK1 (by simp) (by simp)
  have hX1' := (hK1.block w.heap.size (by omega) (by simp)).trans hX1
  have hX2' := (hK1.block (w.heap.size + 1) (by omega) (by simp)).trans hX2
  have hS1 : w.heap.size + 1 < w1.heap.size := Nat.lt_of_lt_of_le hS0 hK1.size
  have hS2 : w.heap.size < w1.heap.size := by omega
  obtain ⟨⟨c0, c1, c2, c3, c4, c5, c6⟩, _⟩ := seven hX1'
  obtain ⟨⟨e0, e1, e2, e3, e4, e5, e6⟩, p0, p1, p2, p3, p4, p5, p6⟩ := seven hX2'
  have hoff := cell_set_off
  have r0 := fun (X : World) (i j : Nat) (u : Value) => cell_set_other (show w.heap.size + 1 ≠ w.heap.size by omega) i j X u
  clear hw0 hK0 hX1 hX2 hS0 hK1
  have HX1 := Lib.hid hX1'; have HX2 := Lib.hid hX2'; clear hX1' hX2'
  cases b
  case' false =>
    go_wp2_with fail
    refine bodyPost_ret (v := .tuple #[.agg #[.int .i64 0, .int .i64 0, .int .i64 0, .float .f64 0, .string ⟨#[]⟩, .slice none 0 0, .slice none 0 0], .bool false]) (by simp [results, Tryz.results24, go_sem, hoff, e0, e1, e2, e3, e4, e5, e6]) rfl ?_
    exact foNo (kept7 hK2 (.inl (by omega)) _ _ _ _ _ _ _)
  have ho := hb rfl
  clear hb
  have HO := Lib.hid ho; clear ho
  by_cases hi : -2147483648 ≤ i
  · have zi : decide (-2147483648 ≤ i) = true := by simp; omega
    go_wp2_with fail
    go_region
    go_wp2_with fail
    refine bodyPost_ret (v := .tuple #[.agg #[.int .i64 2, .int .i64 i, .int .i64 0, .float .f64 0, .string ⟨#[]⟩, .slice none 0 0, .slice none 0 0], .bool (decide (i < 2147483648))]) (by simp [results, Tryz.results24, go_sem, hoff, e0, e1, e2, e3, e4, e5, e6]) rfl ?_
    exact foLeaf (by first | exact (kept7 hK2 (.inl (by omega)) _ _ _ _ _ _ _).drew | exact kept7 hK2.drew (.inl (by omega)) _ _ _ _ _ _ _) (⟨⟨by omega, by omega⟩, ⟨i1, i2⟩, ⟨by omega, by omega⟩, by omega, Nat.zero_le _⟩) (fun _ => ⟨⟨HO.out, by omega, by omega, by omega, by omega, by omega, by omega⟩, onlyNil HO.out (by decide)⟩) (by decide)
  · have zi : decide (-2147483648 ≤ i) = false := by simp; omega
    go_wp2_with fail
    go_region
    go_wp2_with fail
    refine bodyPost_ret (v := .tuple #[.agg #[.int .i64 2, .int .i64 i, .int .i64 0, .float .f64 0, .string ⟨#[]⟩, .slice none 0 0, .slice none 0 0], .bool false]) (by simp [results, Tryz.results24, go_sem, hoff, e0, e1, e2, e3, e4, e5, e6]) rfl ?_
    exact foLeaf (by first | exact (kept7 hK2 (.inl (by omega)) _ _ _ _ _ _ _).drew | exact kept7 hK2.drew (.inl (by omega)) _ _ _ _ _ _ _) (⟨⟨by omega, by omega⟩, ⟨i1, i2⟩, ⟨by omega, by omega⟩, by omega, Nat.zero_le _⟩) (fun h => by cases h) (by decide)
set_option maxRecDepth 100000 in
set_option maxHeartbeats 8000000 in
theorem fo4 (i g : Int) (r : Nat) (s : ByteArray) (keys : List ByteArray) (kids : F) : FoC 4 i g r s keys kids := by
  intro N ka kc a cap w hn ht hN
  have hfld := hn.fld
  obtain ⟨⟨k1, k2⟩, ⟨i1, i2⟩, ⟨g1, g2⟩, r1, s1⟩ := hn.fld
  have hlk1 : keys.length ≤ 140737488351232 := by have := hn.keys.2.1; omega
  have hlk2 : kids.len ≤ 140737488351232 := by have := hn.kids.2.1; omega
  obtain ⟨w0, hw0⟩ : ∃ w0, w0 = (w.alloc (.cells #[.int .i64 4, .int .i64 i, .int .i64 g, .float .f64 r, .string s, .slice ka keys.length kc, .slice a kids.len cap] 26)).alloc (.cells #[.int .i64 0, .int .i64 0, .int .i64 0, .float .f64 0, .string ⟨#[]⟩, .slice none 0 0, .slice none 0 0] 31) := ⟨_, rfl⟩
  have hK0 : Kept [] w w0 := by rw [hw0]; exact ((Kept.refl [] w).alloc _).alloc _
  have hs0 : w0.heap.size = w.heap.size + 2 := by rw [hw0]; simp
  have hX1 : w0.heap[w.heap.size]? = some (.cells #[.int .i64 4, .int .i64 i, .int .i64 g, .float .f64 r, .string s, .slice ka keys.length kc, .slice a kids.len cap] 26 (0, 0)) := by
    rw [hw0, heap_lt (by simp)]; exact heap_at rfl
  have hX2 : w0.heap[w.heap.size + 1]? = some (.cells #[.int .i64 0, .int .i64 0, .int .i64 0, .float .f64 0, .string ⟨#[]⟩, .slice none 0 0, .slice none 0 0] 31 (0, 0)) := by
    rw [hw0]; exact heap_at (by simp)
  have hS0 : w.heap.size + 1 < w0.heap.size := by omega
  have HN := Lib.hid hn; clear hn hs0
  go_enter Tryz.func24, Tryz.ntmps24
  go_wp2_with fail
  rw [← hw0]
  refine (onlyw 4 i g r s ka keys.length kc a kids.len cap w0 hfld hlk1 hlk2).mono ?_
  rintro e w1 ⟨⟨b, rfl, hb⟩, hK1⟩
  have hK2 : Kept [] w w1 := Kept.trans hK0 hK1 (by simp) (by simp)
  have hX1' := (hK1.block w.heap.size (by omega) (by simp)).trans hX1
  have hX2' := (hK1.block (w.heap.size + 1) (by omega) (by simp)).trans hX2
  have hS1 : w.heap.size + 1 < w1.heap.size := Nat.lt_of_lt_of_le hS0 hK1.size
  have hS2 : w.heap.size < w1.heap.size := by omega
  obtain ⟨⟨c0, c1, c2, c3, c4, c5, c6⟩, _⟩ := seven hX1'
  obtain ⟨⟨e0, e1, e2, e3, e4, e5, e6⟩, p0, p1, p2, p3, p4, p5, p6⟩ := seven hX2'
  have hoff := cell_set_off
  have r0 := fun (X : World) (i j : Nat) (u : Value) => cell_set_other (show w.heap.size + 1 ≠ w.heap.size by omega) i j X u
  clear hw0 hK0 hX1 hX2 hS0 hK1
  have HX1 := Lib.hid hX1'; have HX2 := Lib.hid hX2'; clear hX1' hX2'
  cases b
  case' false =>
    go_wp2_with fail
    refine bodyPost_ret (v := .tuple #[.agg #[.int .i64 0, .int .i64 0, .int .i64 0, .float .f64 0, .string ⟨#[]⟩, .slice none 0 0, .slice none 0 0], .bool false]) (by simp [results, Tryz.results24, go_sem, hoff, e0, e1, e2, e3, e4, e5, e6]) rfl ?_
    exact foNo (kept7 hK2 (.inl (by omega)) _ _ _ _ _ _ _)
  have ho := hb rfl
  clear hb
  have HO := Lib.hid ho; clear ho
  go_wp2_with fail
  refine (litb s w1 (by omega)).mono ?_
  rintro e w3 ⟨⟨str, b, rfl, hss⟩, hK3⟩
  have hX2'' := (hK3.block (w.heap.size + 1) hS1 (by simp)).trans HX2.out
  clear c0 c1 c2 c3 c4 c5 c6 e0 e1 e2 e3 e4 e5 e6 p0 p1 p2 p3 p4 p5 p6 r0
  obtain ⟨⟨e0, e1, e2, e3, e4, e5, e6⟩, p0, p1, p2, p3, p4, p5, p6⟩ := seven hX2''
  clear hX2''
  have hK4 := Kept.trans (Z := []) hK2 hK3 (by simp) (by simp)
  go_wp2_with fail
  refine bodyPost_ret (v := .tuple #[.agg #[.int .i64 4, .int .i64 0, .int .i64 0, .float .f64 0, .string str, .slice none 0 0, .slice none 0 0], .bool b]) (by simp [results, Tryz.results24, go_sem, hoff, e0, e1, e2, e3, e4, e5, e6]) rfl ?_
  exact foLeaf (kept7 hK4 (.inl (by omega)) _ _ _ _ _ _ _) (⟨⟨by omega, by omega⟩, ⟨by omega, by omega⟩, ⟨by omega, by omega⟩, by omega, by omega⟩) (fun _ => ⟨⟨HO.out, by omega, by omega, by omega, by omega, by omega, by omega⟩, onlyNil HO.out (by decide)⟩) (by decide)
set_option maxRecDepth 100000 in
set_option maxHeartbeats 8000000 in
theorem fo5 (i g : Int) (r : Nat) (s : ByteArray) (keys : List ByteArray) (kids : F) : FoC 5 i g r s keys kids := by
  intro N ka kc a cap w hn ht hN
  have hfld := hn.fld
  obtain ⟨⟨k1, k2⟩, ⟨i1, i2⟩, ⟨g1, g2⟩, r1, s1⟩ := hn.fld
  have hlk1 : keys.length ≤ 140737488351232 := by have := hn.keys.2.1; omega
  have hlk2 : kids.len ≤ 140737488351232 := by have := hn.kids.2.1; omega
  obtain ⟨w0, hw0⟩ : ∃ w0, w0 = (w.alloc (.cells #[.int .i64 5, .int .i64 i, .int .i64 g, .float .f64 r, .string s, .slice ka keys.length kc, .slice a kids.len cap] 26)).alloc (.cells #[.int .i64 0, .int .i64 0, .int .i64 0, .float .f64 0, .string ⟨#[]⟩, .slice none 0 0, .slice none 0 0] 31) := ⟨_, rfl⟩
  have hK0 : Kept [] w w0 := by rw [hw0]; exact ((Kept.refl [] w).alloc _).alloc _
  have hs0 : w0.heap.size = w.heap.size + 2 := by rw [hw0]; simp
  have hX1 : w0.heap[w.heap.size]? = some (.cells #[.int .i64 5, .int .i64 i, .int .i64 g, .float .f64 r, .string s, .slice ka keys.length kc, .slice a kids.len cap] 26 (0, 0)) := by
    rw [hw0, heap_lt (by simp)]; exact heap_at rfl
  have hX2 : w0.heap[w.heap.size + 1]? = some (.cells #[.int .i64 0, .int .i64 0, .int .i64 0, .float .f64 0, .string ⟨#[]⟩, .slice none 0 0, .slice none 0 0] 31 (0, 0)) := by
    rw [hw0]; exact heap_at (by simp)
  have hS0 : w.heap.size + 1 < w0.heap.size := by omega
  have HN := Lib.hid hn; clear hn hs0
  go_enter Tryz.func24, Tryz.ntmps24
  go_wp2_with fail
  rw [← hw0]
  refine (onlyw 5 i g r s ka keys.length kc a kids.len cap w0 hfld hlk1 hlk2).mono ?_
  rintro e w1 ⟨⟨b, rfl, hb⟩, hK1⟩
  have hK2 : Kept [] w w1 := Kept.trans hK0 hK1 (by simp) (by simp)
  have hX1' := (hK1.block w.heap.size (by omega) (by simp)).trans hX1
  have hX2' := (hK1.block (w.heap.size + 1) (by omega) (by simp)).trans hX2
  have hS1 : w.heap.size + 1 < w1.heap.size := Nat.lt_of_lt_of_le hS0 hK1.size
  have hS2 : w.heap.size < w1.heap.size := by omega
  obtain ⟨⟨c0, c1, c2, c3, c4, c5, c6⟩, _⟩ := seven hX1'
  obtain ⟨⟨e0, e1, e2, e3, e4, e5, e6⟩, p0, p1, p2, p3, p4, p5, p6⟩ := seven hX2'
  have hoff := cell_set_off
  have r0 := fun (X : World) (i j : Nat) (u : Value) => cell_set_other (show w.heap.size + 1 ≠ w.heap.size by omega) i j X u
  clear hw0 hK0 hX1 hX2 hS0 hK1
  have HX1 := Lib.hid hX1'; have HX2 := Lib.hid hX2'; clear hX1' hX2'
  cases b
  case' false =>
    go_wp2_with fail
    refine bodyPost_ret (v := .tuple #[.agg #[.int .i64 0, .int .i64 0, .int .i64 0, .float .f64 0, .string ⟨#[]⟩, .slice none 0 0, .slice none 0 0], .bool false]) (by simp [results, Tryz.results24, go_sem, hoff, e0, e1, e2, e3, e4, e5, e6]) rfl ?_
    exact foNo (kept7 hK2 (.inl (by omega)) _ _ _ _ _ _ _)
  have ho := hb rfl
  clear hb
  have HO := Lib.hid ho; clear ho
  go_wp2_with fail
  refine (hexb s w1 (by omega)).mono ?_
  rintro e w3 ⟨⟨str, b, rfl, hss⟩, hK3⟩
  have hX2'' := (hK3.block (w.heap.size + 1) hS1 (by simp)).trans HX2.out
  clear c0 c1 c2 c3 c4 c5 c6 e0 e1 e2 e3 e4 e5 e6 p0 p1 p2 p3 p4 p5 p6 r0
  obtain ⟨⟨e0, e1, e2, e3, e4, e5, e6⟩, p0, p1, p2, p3, p4, p5, p6⟩ := seven hX2''
  clear hX2''
  have hK4 := Kept.trans (Z := []) hK2 hK3 (by simp) (by simp)
  go_wp2_with fail
  refine bodyPost_ret (v := .tuple #[.agg #[.int .i64 4, .int .i64 0, .int .i64 0, .float .f64 0, .string str, .slice none 0 0, .slice none 0 0], .bool b]) (by simp [results, Tryz.results24, go_sem, hoff, e0, e1, e2, e3, e4, e5, e6]) rfl ?_
  exact foLeaf (kept7 hK4 (.inl (by omega)) _ _ _ _ _ _ _) (⟨⟨by omega, by omega⟩, ⟨by omega, by omega⟩, ⟨by omega, by omega⟩, by omega, by omega⟩) (fun _ => ⟨⟨HO.out, by omega, by omega, by omega, by omega, by omega, by omega⟩, onlyNil HO.out (by decide)⟩) (by decide)
end Go.Proofs.YtfkecmlmnhbmoaaGreatDoor
namespace Go.Proofs.YtfkecmlmnhbmoaaGreatDoor
open Go.RowKit

def TwX (r : Nat) (w1 : World) (A B : Nat) (c d : Obj) (e : Ending) (w' : World) : Prop := (∃ b : Bool, e = .returned (.bool b) ∧ (b = true → ¬ isNan r)) ∧ Kept [] w1 w' ∧ w'.heap[A]? = some c ∧ w'.heap[B]? = some d
set_option maxRecDepth 100000 in
set_option maxHeartbeats 2000000 in
theorem fo3 (i g : Int) (r : Nat) (s : ByteArray) (keys : List ByteArray) (kids : F) : FoC 3 i g r s keys kids := by
  intro N ka kc a cap w hn ht hN
  have hfld := hn.fld
  obtain ⟨⟨k1, k2⟩, ⟨i1, i2⟩, ⟨g1, g2⟩, r1, s1⟩ := hn.fld
  have hlk1 : keys.length ≤ 140737488351232 := by have := hn.keys.2.1; omega
  have hlk2 : kids.len ≤ 140737488351232 := by have := hn.kids.2.1; omega
  obtain ⟨w0, hw0⟩ : ∃ w0, w0 = (w.alloc (.cells #[.int .i64 3, .int .i64 i, .int .i64 g, .float .f64 r, .string s, .slice ka keys.length kc, .slice a kids.len cap] 26)).alloc (.cells #[.int .i64 0, .int .i64 0, .int .i64 0, .float .f64 0, .string ⟨#[]⟩, .slice none 0 0, .slice none 0 0] 31) := ⟨_, rfl⟩
  have hK0 : Kept [] w w0 := by rw [hw0]; exact ((Kept.refl [] w).alloc _).alloc _
  have hs0 : w0.heap.size = w.heap.size + 2 := by rw [hw0]; simp
  have hX1 : w0.heap[w.heap.size]? = some (.cells #[.int .i64 3, .int .i64 i, .int .i64 g, .float .f64 r, .string s, .slice ka keys.length kc, .slice a kids.len cap] 26 (0, 0)) := by
    rw [hw0, heap_lt (by simp)]; exact heap_at rfl
  have hX2 : w0.heap[w.heap.size + 1]? = some (.cells #[.int .i64 0, .int .i64 0, .int .i64 0, .float .f64 0, .string ⟨#[]⟩, .slice none 0 0, .slice none 0 0] 31 (0, 0)) := by
    rw [hw0]; exact heap_at (by simp)
  have hS0 : w.heap.size + 1 < w0.heap.size := by omega
  have HN := Lib.hid hn; clear hn hs0
  go_enter Tryz.func24, Tryz.ntmps24
  go_wp2_with fail
  rw [← hw0]
  refine (onlyw 3 i g r s ka keys.length kc a kids.len cap w0 hfld hlk1 hlk2).mono ?_
  rintro e w1 ⟨⟨b, rfl, hb⟩, hK1⟩
  have hK2 : Kept [] w w1 := Kept.trans hK0 hK1 (by simp) (by simp)
  have hX1' := (hK1.block w.heap.size (by omega) (by simp)).trans hX1
  have hX2' := (hK1.block (w.heap.size + 1) (by omega) (by simp)).trans hX2
  have hS1 : w.heap.size + 1 < w1.heap.size := Nat.lt_of_lt_of_le hS0 hK1.size
  have hS2 : w.heap.size < w1.heap.size := by omega
  obtain ⟨⟨c0, c1, c2, c3, c4, c5, c6⟩, _⟩ := seven hX1'
  obtain ⟨⟨e0, e1, e2, e3, e4, e5, e6⟩, p0, p1, p2, p3, p4, p5, p6⟩ := seven hX2'
  have hoff := cell_set_off
  have r0 := fun (X : World) (i j : Nat) (u : Value) => cell_set_other (show w.heap.size + 1 ≠ w.heap.size by omega) i j X u
  clear hw0 hK0 hX1 hX2 hS0 hK1
  have HX1 := Lib.hid hX1'; have HX2 := Lib.hid hX2'; clear hX1' hX2'
  cases b
  case' false =>
    go_wp2_with fail
    refine bodyPost_ret (v := .tuple #[.agg #[.int .i64 0, .int .i64 0, .int .i64 0, .float .f64 0, .string ⟨#[]⟩, .slice none 0 0, .slice none 0 0], .bool false]) (by simp [results, Tryz.results24, go_sem, hoff, e0, e1, e2, e3, e4, e5, e6]) rfl ?_
    exact foNo (kept7 hK2 (.inl (by omega)) _ _ _ _ _ _ _)
  have ho := hb rfl
  clear hb
  have HO := Lib.hid ho; clear ho
  have ht1 := ht.kept hK2 hN (by simp)
  have hT : ∀ W : World, (∃ k, W = w1.drewN k) → Calls Tryz.prog 42 #[.float .f64 r] W (TwX r w1 w.heap.size (w.heap.size + 1) (.cells #[.int .i64 3, .int .i64 i, .int .i64 g, .float .f64 r, .string s, .slice ka keys.length kc, .slice a kids.len cap] 26 (0, 0)) (.cells #[.int .i64 0, .int .i64 0, .int .i64 0, .float .f64 0, .string ⟨#[]⟩, .slice none 0 0, .slice none 0 0] 31 (0, 0))) := fun W ⟨k, h⟩ => by
    subst h
    have hNw : N ≤ w1.heap.size := Nat.le_trans hN hK2.size
    refine (twelve r N _ r1 (ht1.kept ((Kept.refl [] w1).drewN k) hNw (by simp)) (by rw [Tryz.drewN_heap]; exact hNw)).mono ?_
    rintro e w' ⟨hb, hk⟩
    have hk' : Kept [] w1 w' := Kept.trans ((Kept.refl [] w1).drewN k) hk (by simp) (by simp)
    exact ⟨hb, hk', (hk'.block _ hS2 (by simp)).trans HX1.out, (hk'.block _ hS1 (by simp)).trans HX2.out⟩
  have HT := Lib.hid hT; clear hT ht1
  go_wp2_with fail
  go_region_with ((go_at_call 42; refine (HT.out _ ⟨_, rfl⟩).mono ?_; rintro e w3 ⟨⟨b, rfl, hb⟩, hK3, hA, hB⟩; obtain ⟨⟨d0, d1, d2, d3, d4, d5, d6⟩, _⟩ := seven hA; obtain ⟨⟨f0, f1, f2, f3, f4, f5, f6⟩, q0, q1, q2, q3, q4, q5, q6⟩ := seven hB))
  all_goals go_wp2_with fail
  all_goals have hK4 := Kept.trans (Z := []) hK2 hK3 (by simp) (by simp)
  all_goals refine bodyPost_ret (v := .tuple #[.agg #[.int .i64 3, .int .i64 0, .int .i64 0, .float .f64 r, .string ⟨#[]⟩, .slice none 0 0, .slice none 0 0], .bool b]) (by simp [results, Tryz.results24, go_sem, hoff, f0, f1, f2, f3, f4, f5, f6]) rfl ?_
  all_goals exact foLeaf (by repeat (first | with_reducible exact hK4 | with_reducible refine Kept.drew ?_ | with_reducible refine Kept.drewN ?_ _ | with_reducible refine Kept.setCell ?_ (.inl (by show w.heap.size ≤ w.heap.size + 1; omega)) _ | with_reducible refine Kept.alloc ?_ _)) (⟨⟨by omega, by omega⟩, ⟨by omega, by omega⟩, ⟨by omega, by omega⟩, r1, Nat.zero_le _⟩) (fun h => ⟨⟨HO.out, by omega, by omega, by omega, fun _ => hb h, by omega, by omega⟩, onlyNil HO.out (by decide)⟩) (by decide)
end Go.Proofs.YtfkecmlmnhbmoaaGreatDoor
namespace Go.Proofs.YtfkecmlmnhbmoaaGreatDoor
open Go.RowKit

set_option maxRecDepth 100000 in
set_option maxHeartbeats 2000000 in
theorem fo6 (i g : Int) (r : Nat) (s : ByteArray) (keys : List ByteArray) (kids : F) : FoC 6 i g r s keys kids := by
  intro N ka kc a cap w hn ht hN
  have hfld := hn.fld
  obtain ⟨⟨k1, k2⟩, ⟨i1, i2⟩, ⟨g1, g2⟩, r1, s1⟩ := hn.fld
  have hlk1 : keys.length ≤ 140737488351232 := by have := hn.keys.2.1; omega
  have hlk2 : kids.len ≤ 140737488351232 := by have := hn.kids.2.1; omega
  obtain ⟨w0, hw0⟩ : ∃ w0, w0 = (w.alloc (.cells #[.int .i64 6, .int .i64 i, .int .i64 g, .float .f64 r, .string s, .slice ka keys.length kc, .slice a kids.len cap] 26)).alloc (.cells #[.int .i64 0, .int .i64 0, .int .i64 0, .float .f64 0, .string ⟨#[]⟩, .slice none 0 0, .slice none 0 0] 31) := ⟨_, rfl⟩
  have hK0 : Kept [] w w0 := by rw [hw0]; exact ((Kept.refl [] w).alloc _).alloc _
  have hs0 : w0.heap.size = w.heap.size + 2 := by rw [hw0]; simp
  have hX1 : w0.heap[w.heap.size]? = some (.cells #[.int .i64 6, .int .i64 i, .int .i64 g, .float .f64 r, .string s, .slice ka keys.length kc, .slice a kids.len cap] 26 (0, 0)) := by
    rw [hw0, heap_lt (by simp)]; exact heap_at rfl
  have hX2 : w0.heap[w.heap.size + 1]? = some (.cells #[.int .i64 0, .int .i64 0, .int .i64 0, .float .f64 0, .string ⟨#[]⟩, .slice none 0 0, .slice none 0 0] 31 (0, 0)) := by
    rw [hw0]; exact heap_at (by simp)
  have hS0 : w.heap.size + 1 < w0.heap.size := by omega
  have HN := Lib.hid hn; clear hn hs0
  go_enter Tryz.func24, Tryz.ntmps24
  go_wp2_with fail
  rw [← hw0]
  refine (onlyw 6 i g r s ka keys.length kc a kids.len cap w0 hfld hlk1 hlk2).mono ?_
  rintro e w1 ⟨⟨b, rfl, hb⟩, hK1⟩
  have hK2 : Kept [] w w1 := Kept.trans hK0 hK1 (by simp) (by simp)
  have hX1' := (hK1.block w.heap.size (by omega) (by simp)).trans hX1
  have hX2' := (hK1.block (w.heap.size + 1) (by omega) (by simp)).trans hX2
  have hS1 : w.heap.size + 1 < w1.heap.size := Nat.lt_of_lt_of_le hS0 hK1.size
  have hS2 : w.heap.size < w1.heap.size := by omega
  obtain ⟨⟨c0, c1, c2, c3, c4, c5, c6⟩, _⟩ := seven hX1'
  obtain ⟨⟨e0, e1, e2, e3, e4, e5, e6⟩, p0, p1, p2, p3, p4, p5, p6⟩ := seven hX2'
  have hoff := cell_set_off
  have r0 := fun (X : World) (i j : Nat) (u : Value) => cell_set_other (show w.heap.size + 1 ≠ w.heap.size by omega) i j X u
  clear hw0 hK0 hX1 hX2 hS0 hK1
  have HX1 := Lib.hid hX1'; have HX2 := Lib.hid hX2'; clear hX1' hX2'
  cases b
  case' false =>
    go_wp2_with fail
    refine bodyPost_ret (v := .tuple #[.agg #[.int .i64 0, .int .i64 0, .int .i64 0, .float .f64 0, .string ⟨#[]⟩, .slice none 0 0, .slice none 0 0], .bool false]) (by simp [results, Tryz.results24, go_sem, hoff, e0, e1, e2, e3, e4, e5, e6]) rfl ?_
    exact foNo (kept7 hK2 (.inl (by omega)) _ _ _ _ _ _ _)
  have ho := hb rfl
  clear hb
  have HO := Lib.hid ho; clear ho
  have hs9 : s.size ≤ 140737488355000 := by omega
  go_wp2_with fail
  go_region_with ((go_at_call 45; refine (nameab s _ hs9).mono ?_; rintro e w3 ⟨⟨b, rfl⟩, rfl⟩))
  all_goals go_wp2_with fail
  all_goals refine bodyPost_ret (v := .tuple #[.agg #[.int .i64 5, .int .i64 0, .int .i64 0, .float .f64 0, .string s, .slice none 0 0, .slice none 0 0], .bool b]) (by simp [results, Tryz.results24, go_sem, hoff, e0, e1, e2, e3, e4, e5, e6]) rfl ?_
  all_goals exact foLeaf (by repeat (first | with_reducible exact hK2 | with_reducible refine Kept.drew ?_ | with_reducible refine Kept.drewN ?_ _ | with_reducible refine Kept.setCell ?_ (.inl (by show w.heap.size ≤ w.heap.size + 1; omega)) _ | with_reducible refine Kept.alloc ?_ _)) (⟨⟨by omega, by omega⟩, ⟨by omega, by omega⟩, ⟨by omega, by omega⟩, by omega, s1⟩) (fun h => ⟨⟨HO.out, by omega, by omega, by omega, by omega, by omega, by omega⟩, onlyNil HO.out (by decide)⟩) (by decide)
end Go.Proofs.YtfkecmlmnhbmoaaGreatDoor
namespace Go.Proofs.YtfkecmlmnhbmoaaGreatDoor
open Go.RowKit

set_option maxRecDepth 100000 in
set_option maxHeartbeats 2000000 in
theorem fo9 (i g : Int) (r : Nat) (s : ByteArray) (keys : List ByteArray) (kids : F) : FoC 9 i g r s keys kids := by
  intro N ka kc a cap w hn ht hN
  have hfld := hn.fld
  obtain ⟨⟨k1, k2⟩, ⟨i1, i2⟩, ⟨g1, g2⟩, r1, s1⟩ := hn.fld
  have hlk1 : keys.length ≤ 140737488351232 := by have := hn.keys.2.1; omega
  have hlk2 : kids.len ≤ 140737488351232 := by have := hn.kids.2.1; omega
  obtain ⟨w0, hw0⟩ : ∃ w0, w0 = (w.alloc (.cells #[.int .i64 9, .int .i64 i, .int .i64 g, .float .f64 r, .string s, .slice ka keys.length kc, .slice a kids.len cap] 26)).alloc (.cells #[.int .i64 0, .int .i64 0, .int .i64 0, .float .f64 0, .string ⟨#[]⟩, .slice none 0 0, .slice none 0 0] 31) := ⟨_, rfl⟩
  have hK0 : Kept [] w w0 := by rw [hw0]; exact ((Kept.refl [] w).alloc _).alloc _
  have hs0 : w0.heap.size = w.heap.size + 2 := by rw [hw0]; simp
  have hX1 : w0.heap[w.heap.size]? = some (.cells #[.int .i64 9, .int .i64 i, .int .i64 g, .float .f64 r, .string s, .slice ka keys.length kc, .slice a kids.len cap] 26 (0, 0)) := by
    rw [hw0, heap_lt (by simp)]; exact heap_at rfl
  have hX2 : w0.heap[w.heap.size + 1]? = some (.cells #[.int .i64 0, .int .i64 0, .int .i64 0, .float .f64 0, .string ⟨#[]⟩, .slice none 0 0, .slice none 0 0] 31 (0, 0)) := by
    rw [hw0]; exact heap_at (by simp)
  have hS0 : w.heap.size + 1 < w0.heap.size := by omega
  have HN := Lib.hid hn; clear hn hs0
  go_enter Tryz.func24, Tryz.ntmps24
  go_wp2_with fail
  rw [← hw0]
  refine (onlyw 9 i g r s ka keys.length kc a kids.len cap w0 hfld hlk1 hlk2).mono ?_
  rintro e w1 ⟨⟨b, rfl, hb⟩, hK1⟩
  have hK2 : Kept [] w w1 := Kept.trans hK0 hK1 (by simp) (by simp)
  have hX1' := (hK1.block w.heap.size (by omega) (by simp)).trans hX1
  have hX2' := (hK1.block (w.heap.size + 1) (by omega) (by simp)).trans hX2
  have hS1 : w.heap.size + 1 < w1.heap.size := Nat.lt_of_lt_of_le hS0 hK1.size
  have hS2 : w.heap.size < w1.heap.size := by omega
  obtain ⟨⟨c0, c1, c2, c3, c4, c5, c6⟩, _⟩ := seven hX1'
  obtain ⟨⟨e0, e1, e2, e3, e4, e5, e6⟩, p0, p1, p2, p3, p4, p5, p6⟩ := seven hX2'
  have hoff := cell_set_off
  have r0 := fun (X : World) (i j : Nat) (u : Value) => cell_set_other (show w.heap.size + 1 ≠ w.heap.size by omega) i j X u
  clear hw0 hK0 hX1 hX2 hS0 hK1
  have HX1 := Lib.hid hX1'; have HX2 := Lib.hid hX2'; clear hX1' hX2'
  cases b
  case' false =>
    go_wp2_with fail
    refine bodyPost_ret (v := .tuple #[.agg #[.int .i64 0, .int .i64 0, .int .i64 0, .float .f64 0, .string ⟨#[]⟩, .slice none 0 0, .slice none 0 0], .bool false]) (by simp [results, Tryz.results24, go_sem, hoff, e0, e1, e2, e3, e4, e5, e6]) rfl ?_
    exact foNo (kept7 hK2 (.inl (by omega)) _ _ _ _ _ _ _)
  have ho := hb rfl
  clear hb
  have HO := Lib.hid ho; clear ho
  have hcase : (¬ 0 < i) ∨ (0 < i ∧ ¬ i < 2147483648) ∨ (0 < i ∧ i < 2147483648 ∧ ¬ 0 ≤ g) ∨ (0 < i ∧ i < 2147483648 ∧ 0 ≤ g) := by omega
  rcases hcase with h1 | ⟨h1, h2⟩ | ⟨h1, h2, h3⟩ | ⟨h1, h2, h3⟩
  · have z1 : decide (0 < i) = false := by simp; omega
    go_wp2_with fail
    go_region
    go_wp2_with fail
    refine bodyPost_ret (v := .tuple #[.agg #[.int .i64 8, .int .i64 i, .int .i64 g, .float .f64 0, .string ⟨#[]⟩, .slice none 0 0, .slice none 0 0], .bool false]) (by simp [results, Tryz.results24, go_sem, hoff, e0, e1, e2, e3, e4, e5, e6]) rfl ?_
    exact foLeaf (by repeat (first | with_reducible exact hK2 | with_reducible refine Kept.drew ?_ | with_reducible refine Kept.drewN ?_ _ | with_reducible refine Kept.setCell ?_ (.inl (by show w.heap.size ≤ w.heap.size + 1; omega)) _ | with_reducible refine Kept.alloc ?_ _)) (⟨⟨by omega, by omega⟩, ⟨i1, i2⟩, ⟨g1, g2⟩, by omega, Nat.zero_le _⟩) (fun _ => ⟨⟨HO.out, by omega, by omega, by omega, by omega, by omega, by omega⟩, onlyNil HO.out (by decide)⟩) (by decide)
  · have z1 : decide (0 < i) = true := by simp; omega
    have z2 : decide (i < 2147483648) = false := by simp; omega
    go_wp2_with fail
    go_region
    go_wp2_with fail
    refine bodyPost_ret (v := .tuple #[.agg #[.int .i64 8, .int .i64 i, .int .i64 g, .float .f64 0, .string ⟨#[]⟩, .slice none 0 0, .slice none 0 0], .bool false]) (by simp [results, Tryz.results24, go_sem, hoff, e0, e1, e2, e3, e4, e5, e6]) rfl ?_
    exact foLeaf (by repeat (first | with_reducible exact hK2 | with_reducible refine Kept.drew ?_ | with_reducible refine Kept.drewN ?_ _ | with_reducible refine Kept.setCell ?_ (.inl (by show w.heap.size ≤ w.heap.size + 1; omega)) _ | with_reducible refine Kept.alloc ?_ _)) (⟨⟨by omega, by omega⟩, ⟨i1, i2⟩, ⟨g1, g2⟩, by omega, Nat.zero_le _⟩) (fun _ => ⟨⟨HO.out, by omega, by omega, by omega, by omega, by omega, by omega⟩, onlyNil HO.out (by decide)⟩) (by decide)
  · have z1 : decide (0 < i) = true := by simp; omega
    have z2 : decide (i < 2147483648) = true := by simp; omega
    have z3 : decide (0 ≤ g) = false := by simp; omega
    go_wp2_with fail
    go_region
    go_wp2_with fail
    refine bodyPost_ret (v := .tuple #[.agg #[.int .i64 8, .int .i64 i, .int .i64 g, .float .f64 0, .string ⟨#[]⟩, .slice none 0 0, .slice none 0 0], .bool false]) (by simp [results, Tryz.results24, go_sem, hoff, e0, e1, e2, e3, e4, e5, e6]) rfl ?_
    exact foLeaf (by repeat (first | with_reducible exact hK2 | with_reducible refine Kept.drew ?_ | with_reducible refine Kept.drewN ?_ _ | with_reducible refine Kept.setCell ?_ (.inl (by show w.heap.size ≤ w.heap.size + 1; omega)) _ | with_reducible refine Kept.alloc ?_ _)) (⟨⟨by omega, by omega⟩, ⟨i1, i2⟩, ⟨g1, g2⟩, by omega, Nat.zero_le _⟩) (fun _ => ⟨⟨HO.out, by omega, by omega, by omega, by omega, by omega, by omega⟩, onlyNil HO.out (by decide)⟩) (by decide)
  · have z1 : decide (0 < i) = true := by simp; omega
    have z2 : decide (i < 2147483648) = true := by simp; omega
    have z3 : decide (0 ≤ g) = true := by simp; omega
    go_wp2_with fail
    go_region
    go_wp2_with fail
    refine bodyPost_ret (v := .tuple #[.agg #[.int .i64 8, .int .i64 i, .int .i64 g, .float .f64 0, .string ⟨#[]⟩, .slice none 0 0, .slice none 0 0], .bool (decide (g ≤ 65535))]) (by simp [results, Tryz.results24, go_sem, hoff, e0, e1, e2, e3, e4, e5, e6]) rfl ?_
    exact foLeaf (by repeat (first | with_reducible exact hK2 | with_reducible refine Kept.drew ?_ | with_reducible refine Kept.drewN ?_ _ | with_reducible refine Kept.setCell ?_ (.inl (by show w.heap.size ≤ w.heap.size + 1; omega)) _ | with_reducible refine Kept.alloc ?_ _)) (⟨⟨by omega, by omega⟩, ⟨i1, i2⟩, ⟨g1, g2⟩, by omega, Nat.zero_le _⟩) (fun _ => ⟨⟨HO.out, by omega, by omega, by omega, by omega, by omega, by omega⟩, onlyNil HO.out (by decide)⟩) (by decide)
end Go.Proofs.YtfkecmlmnhbmoaaGreatDoor
namespace Go.Proofs.YtfkecmlmnhbmoaaGreatDoor
open Go.RowKit
set_option maxRecDepth 100000 in
set_option maxHeartbeats 3000000 in
theorem foX (k : Int) (hk : k < 0 ∨ 9 < k) (i g : Int) (r : Nat) (s : ByteArray) (keys : List ByteArray) (kids : F) : FoC k i g r s keys kids := by
  intro N ka kc a cap w hn ht hN
  have hfld := hn.fld
  obtain ⟨⟨k1, k2⟩, ⟨i1, i2⟩, ⟨g1, g2⟩, r1, s1⟩ := hn.fld
  have hlk1 : keys.length ≤ 140737488351232 := by have := hn.keys.2.1; omega
  have hlk2 : kids.len ≤ 140737488351232 := by have := hn.kids.2.1; omega
  obtain ⟨w0, hw0⟩ : ∃ w0, w0 = (w.alloc (.cells #[.int .i64 k, .int .i64 i, .int .i64 g, .float .f64 r, .string s, .slice ka keys.length kc, .slice a kids.len cap] 26)).alloc (.cells #[.int .i64 0, .int .i64 0, .int .i64 0, .float .f64 0, .string ⟨#[]⟩, .slice none 0 0, .slice none 0 0] 31) := ⟨_, rfl⟩
  have hK0 : Kept [] w w0 := by rw [hw0]; exact ((Kept.refl [] w).alloc _).alloc _
  have hs0 : w0.heap.size = w.heap.size + 2 := by rw [hw0]; simp
  have hX1 : w0.heap[w.heap.size]? = some (.cells #[.int .i64 k, .int .i64 i, .int .i64 g, .float .f64 r, .string s, .slice ka keys.length kc, .slice a kids.len cap] 26 (0, 0)) := by
    rw [hw0, heap_lt (by simp)]; exact heap_at rfl
  have hX2 : w0.heap[w.heap.size + 1]? = some (.cells #[.int .i64 0, .int .i64 0, .int .i64 0, .float .f64 0, .string ⟨#[]⟩, .slice none 0 0, .slice none 0 0] 31 (0, 0)) := by
    rw [hw0]; exact heap_at (by simp)
  have hS0 : w.heap.size + 1 < w0.heap.size := by omega
  have HN := Lib.hid hn; clear hn hs0
  go_enter Tryz.func24, Tryz.ntmps24
  go_wp2_with fail
  rw [← hw0]
  refine (onlyw k i g r s ka keys.length kc a kids.len cap w0 hfld hlk1 hlk2).mono ?_
  rintro e w1 ⟨⟨b, rfl, hb⟩, hK1⟩
  have hK2 : Kept [] w w1 := Kept.trans hK0 hK1 (by simp) (by simp)
  have hX1' := (hK1.block w.heap.size (by omega) (by simp)).trans hX1
  have hX2' := (hK1.block (w.heap.size + 1) (by omega) (by simp)).trans hX2
  have hS1 : w.heap.size + 1 < w1.heap.size := Nat.lt_of_lt_of_le hS0 hK1.size
  have hS2 : w.heap.size < w1.heap.size := by omega
  obtain ⟨⟨c0, c1, c2, c3, c4, c5, c6⟩, _⟩ := seven hX1'
  obtain ⟨⟨e0, e1, e2, e3, e4, e5, e6⟩, p0, p1, p2, p3, p4, p5, p6⟩ := seven hX2'
  have hoff := cell_set_off
  have r0 := fun (X : World) (i j : Nat) (u : Value) => cell_set_other (show w.heap.size + 1 ≠ w.heap.size by omega) i j X u
  clear hw0 hK0 hX1 hX2 hS0 hK1
  have HX1 := Lib.hid hX1'; have HX2 := Lib.hid hX2'; clear hX1' hX2'
  cases b
  case' false =>
    go_wp2_with fail
    refine bodyPost_ret (v := .tuple #[.agg #[.int .i64 0, .int .i64 0, .int .i64 0, .float .f64 0, .string ⟨#[]⟩, .slice none 0 0, .slice none 0 0], .bool false]) (by simp [results, Tryz.results24, go_sem, hoff, e0, e1, e2, e3, e4, e5, e6]) rfl ?_
    exact foNo (kept7 hK2 (.inl (by omega)) _ _ _ _ _ _ _)
  have ho := hb rfl
  clear hb
  have z0 : (k == 0) = false := beq_eq_false_iff_ne.2 (by omega)
  have z1 : (k == 1) = false := beq_eq_false_iff_ne.2 (by omega)
  have z2 : (k == 2) = false := beq_eq_false_iff_ne.2 (by omega)
  have z3 : (k == 3) = false := beq_eq_false_iff_ne.2 (by omega)
  have z4 : (k == 4) = false := beq_eq_false_iff_ne.2 (by omega)
  have z5 : (k == 5) = false := beq_eq_false_iff_ne.2 (by omega)
  have z6 : (k == 6) = false := beq_eq_false_iff_ne.2 (by omega)
  have z7 : (k == 7) = false := beq_eq_false_iff_ne.2 (by omega)
  have z8 : (k == 8) = false := beq_eq_false_iff_ne.2 (by omega)
  have z9 : (k == 9) = false := beq_eq_false_iff_ne.2 (by omega)
  clear ho
  go_wp2_with fail
  refine bodyPost_ret (v := .tuple #[.agg #[.int .i64 0, .int .i64 0, .int .i64 0, .float .f64 0, .string ⟨#[]⟩, .slice none 0 0, .slice none 0 0], .bool false]) (by simp [results, Tryz.results24, go_sem, hoff, e0, e1, e2, e3, e4, e5, e6]) rfl ?_
  exact foNo (kept7 hK2 (.inl (by omega)) _ _ _ _ _ _ _)
end Go.Proofs.YtfkecmlmnhbmoaaGreatDoor
namespace Go.Proofs.YtfkecmlmnhbmoaaGreatDoor
open Go.RowKit
theorem foKids {N : Nat} {w w1 w3 : World} {k i g kk k' i' g' : Int} {r r' : Nat} {s s' : ByteArray} {keys keys0 : List ByteArray} {kids : F} {ka0 ka' a' : Option Addr} {kc0 nk' kc' nd' cap' : Nat} {b : Bool} (hN : N ≤ w.heap.size) (hK2 : Kept [] w w1) (hS1 : w.heap.size + 1 < w1.heap.size) (hK3 : Kept [] w1 w3)
    (hb : b = true → Good kids ∧ k' = kk ∧ i' = 0 ∧ g' = 0 ∧ r' = 0 ∧ s' = ⟨#[]⟩ ∧ ka' = ka0 ∧ nk' = keys0.length ∧ kc' = kc0 ∧ ∃ kids', nd' = kids'.len ∧ Kids (Fr N w1.heap.size w3.heap.size) w3 a' cap' kids' ∧ Cv kids kids') (hbf : b = false → k' = 0 ∧ i' = 0 ∧ g' = 0 ∧ r' = 0 ∧ s' = ⟨#[]⟩ ∧ ka' = none ∧ nk' = 0 ∧ kc' = 0 ∧ a' = none ∧ nd' = 0 ∧ cap' = 0)
    (hg : b = true → Good1 k i g r s keys kids) (hkk : (k = 0 ↔ kk = 0) ∧ I64 kk) (hkeys : KeysIn (Lt N) w1 ka0 kc0 keys0 ∧ (k = 8 → keys0 = keys)) :
    FoE N w k i g r s keys kids (.returned (.tuple #[.agg #[.int .i64 k', .int .i64 i', .int .i64 g', .float .f64 r', .string s', .slice ka' nk' kc', .slice a' nd' cap'], .bool b]))
      (((((((w3.setCell ⟨w.heap.size + 1, 0, none⟩ (.int .i64 k')).setCell ⟨w.heap.size + 1, 1, none⟩ (.int .i64 i')).setCell ⟨w.heap.size + 1, 2, none⟩ (.int .i64 g')).setCell ⟨w.heap.size + 1, 3, none⟩ (.float .f64 r')).setCell ⟨w.heap.size + 1, 4, none⟩ (.string s')).setCell ⟨w.heap.size + 1, 5, none⟩ (.slice ka' nk' kc')).setCell ⟨w.heap.size + 1, 6, none⟩ (.slice a' nd' cap')) := by
  have hK4 : Kept [] w w3 := Kept.trans hK2 hK3 (by simp) (by simp)
  refine ⟨kept7 hK4 (.inl (by omega)) _ _ _ _ _ _ _, k', i', g', r', s', ka', nk', kc', a', nd', cap', b, rfl, fun h => ?_, fun h => by
    obtain ⟨rfl, rfl, rfl, rfl, rfl, rfl, rfl, rfl, rfl, rfl, rfl⟩ := hbf h
    exact ⟨[], .nil, rfl, rfl, leafNode ⟨⟨by decide, by decide⟩, ⟨by decide, by decide⟩, ⟨by decide, by decide⟩, by decide, by decide⟩⟩⟩
  obtain ⟨h1, rfl, rfl, rfl, rfl, rfl, rfl, rfl, rfl, kids', rfl, h2, h3⟩ := hb h
  have hKw := kept7 (b := w.heap.size + 1) (Kept.refl [w.heap.size + 1] w3) (.inr (by simp)) (.int .i64 k') (.int .i64 0) (.int .i64 0) (.float .f64 0) (.string ⟨#[]⟩) (.slice ka' keys0.length kc') (.slice a' kids'.len cap')
  have hN1 : N ≤ w1.heap.size := Nat.le_trans hN hK2.size
  refine ⟨hg h, h1, keys0, kids', rfl, rfl, ⟨⟨hkk.2, ⟨by omega, by omega⟩, ⟨by omega, by omega⟩, by omega, Nat.zero_le _⟩, ?_, ?_⟩, ⟨hkk.1, hkeys.2⟩, h3⟩
  · refine ((hkeys.1.kept hK3 (ltk hN1 (by simp))).kept hKw (ltk (Nat.le_trans hN hK4.size) (by simp; omega))).mono fun b hb => .inl hb
  · refine (h2.kept hKw fun b hb => ⟨?_, fun hm => ?_⟩).mono fun b hb => ?_
    · rcases hb with h | ⟨_, h⟩
      · have := hK4.size; omega
      · exact h
    · simp at hm; subst hm
      rcases hb with h | ⟨h, _⟩ <;> omega
    · rcases hb with h | ⟨h, h2⟩
      · exact .inl h
      · exact .inr ⟨by omega, by simpa using h2⟩
set_option maxRecDepth 100000 in
set_option maxHeartbeats 3000000 in
theorem fo7 (i g : Int) (r : Nat) (s : ByteArray) (keys : List ByteArray) (kids : F) (ih : AllN FoC kids) : FoC 7 i g r s keys kids := by
  intro N ka kc a cap w hn ht hN
  have hfld := hn.fld
  obtain ⟨⟨k1, k2⟩, ⟨i1, i2⟩, ⟨g1, g2⟩, r1, s1⟩ := hn.fld
  have hlk1 : keys.length ≤ 140737488351232 := by have := hn.keys.2.1; omega
  have hlk2 : kids.len ≤ 140737488351232 := by have := hn.kids.2.1; omega
  obtain ⟨w0, hw0⟩ : ∃ w0, w0 = (w.alloc (.cells #[.int .i64 7, .int .i64 i, .int .i64 g, .float .f64 r, .string s, .slice ka keys.length kc, .slice a kids.len cap] 26)).alloc (.cells #[.int .i64 0, .int .i64 0, .int .i64 0, .float .f64 0, .string ⟨#[]⟩, .slice none 0 0, .slice none 0 0] 31) := ⟨_, rfl⟩
  have hK0 : Kept [] w w0 := by rw [hw0]; exact ((Kept.refl [] w).alloc _).alloc _
  have hs0 : w0.heap.size = w.heap.size + 2 := by rw [hw0]; simp
  have hX1 : w0.heap[w.heap.size]? = some (.cells #[.int .i64 7, .int .i64 i, .int .i64 g, .float .f64 r, .string s, .slice ka keys.length kc, .slice a kids.len cap] 26 (0, 0)) := by
    rw [hw0, heap_lt (by simp)]; exact heap_at rfl
  have hX2 : w0.heap[w.heap.size + 1]? = some (.cells #[.int .i64 0, .int .i64 0, .int .i64 0, .float .f64 0, .string ⟨#[]⟩, .slice none 0 0, .slice none 0 0] 31 (0, 0)) := by
    rw [hw0]; exact heap_at (by simp)
  have hS0 : w.heap.size + 1 < w0.heap.size := by omega
  have HN := Lib.hid hn; clear hn hs0
  go_enter Tryz.func24, Tryz.ntmps24
  go_wp2_with fail
  rw [← hw0]
  refine (onlyw 7 i g r s ka keys.length kc a kids.len cap w0 hfld hlk1 hlk2).mono ?_
  rintro e w1 ⟨⟨b, rfl, hb⟩, hK1⟩
  have hK2 : Kept [] w w1 := Kept.trans hK0 hK1 (by simp) (by simp)
  have hX1' := (hK1.block w.heap.size (by omega) (by simp)).trans hX1
  have hX2' := (hK1.block (w.heap.size + 1) (by omega) (by simp)).trans hX2
  have hS1 : w.heap.size + 1 < w1.heap.size := Nat.lt_of_lt_of_le hS0 hK1.size
  have hS2 : w.heap.size < w1.heap.size := by omega
  obtain ⟨⟨c0, c1, c2, c3, c4, c5, c6⟩, _⟩ := seven hX1'
  obtain ⟨⟨e0, e1, e2, e3, e4, e5, e6⟩, p0, p1, p2, p3, p4, p5, p6⟩ := seven hX2'
  have hoff := cell_set_off
  have r0 := fun (X : World) (i j : Nat) (u : Value) => cell_set_other (show w.heap.size + 1 ≠ w.heap.size by omega) i j X u
  clear hw0 hK0 hX1 hX2 hS0 hK1
  have HX1 := Lib.hid hX1'; have HX2 := Lib.hid hX2'; clear hX1' hX2'
  cases b
  case' false =>
    go_wp2_with fail
    refine bodyPost_ret (v := .tuple #[.agg #[.int .i64 0, .int .i64 0, .int .i64 0, .float .f64 0, .string ⟨#[]⟩, .slice none 0 0, .slice none 0 0], .bool false]) (by simp [results, Tryz.results24, go_sem, hoff, e0, e1, e2, e3, e4, e5, e6]) rfl ?_
    exact foNo (kept7 hK2 (.inl (by omega)) _ _ _ _ _ _ _)
  have ho := hb rfl
  clear hb
  have HO := Lib.hid ho; have HIH := Lib.hid ih; clear ho ih
  have hNw : N ≤ w1.heap.size := Nat.le_trans hN hK2.size
  have hn1 := HN.out.kept hK2 (ltk hN (by simp))
  have HN1 := Lib.hid hn1; clear hn1
  go_wp2_with fail
  refine (fkids N 6 none 0 0 7 i g r s keys kids ka kc a cap w1 HN1.out (ht.kept hK2 hN (by simp)) hNw HIH.out).mono ?_
  rintro e w3 ⟨hK3, k3, i3, g3, r3, s3, ka3, nk3, kc3, a3, nd3, cap3, b3, rfl, hb3⟩
  have hX2'' := (hK3.block (w.heap.size + 1) hS1 (by simp)).trans HX2.out
  clear c0 c1 c2 c3 c4 c5 c6 e0 e1 e2 e3 e4 e5 e6 p0 p1 p2 p3 p4 p5 p6 r0
  obtain ⟨⟨e0, e1, e2, e3, e4, e5, e6⟩, p0, p1, p2, p3, p4, p5, p6⟩ := seven hX2''
  clear hX2''
  have HB3 := Lib.hid hb3; clear hb3
  go_wp2_with fail
  refine bodyPost_ret (v := .tuple #[.agg #[.int .i64 k3, .int .i64 i3, .int .i64 g3, .float .f64 r3, .string s3, .slice ka3 nk3 kc3, .slice a3 nd3 cap3], .bool b3]) (by simp [results, Tryz.results24, go_sem, hoff, e0, e1, e2, e3, e4, e5, e6]) rfl ?_
  exact foKids (keys0 := []) hN hK2 hS1 hK3 HB3.out.1 HB3.out.2 (fun _ => ⟨HO.out, by omega, by omega, by omega, by omega, by omega, by omega⟩) ⟨by decide, by omega, by omega⟩ ⟨⟨by simp, by simp, fun i hi => by simp at hi⟩, fun h => by omega⟩
end Go.Proofs.YtfkecmlmnhbmoaaGreatDoor
namespace Go.Proofs.YtfkecmlmnhbmoaaGreatDoor
open Go.RowKit


set_option maxRecDepth 100000 in
set_option maxHeartbeats 6000000 in
theorem fo8 (i g : Int) (r : Nat) (s : ByteArray) (keys : List ByteArray) (kids : F) (ih : AllN FoC kids) : FoC 8 i g r s keys kids := by
  intro N ka kc a cap w hn ht hN
  have hfld := hn.fld
  obtain ⟨⟨k1, k2⟩, ⟨i1, i2⟩, ⟨g1, g2⟩, r1, s1⟩ := hn.fld
  have hlk1 : keys.length ≤ 140737488351232 := by have := hn.keys.2.1; omega
  have hlk2 : kids.len ≤ 140737488351232 := by have := hn.kids.2.1; omega
  obtain ⟨w0, hw0⟩ : ∃ w0, w0 = (w.alloc (.cells #[.int .i64 8, .int .i64 i, .int .i64 g, .float .f64 r, .string s, .slice ka keys.length kc, .slice a kids.len cap] 26)).alloc (.cells #[.int .i64 0, .int .i64 0, .int .i64 0, .float .f64 0, .string ⟨#[]⟩, .slice none 0 0, .slice none 0 0] 31) := ⟨_, rfl⟩
  have hK0 : Kept [] w w0 := by rw [hw0]; exact ((Kept.refl [] w).alloc _).alloc _
  have hs0 : w0.heap.size = w.heap.size + 2 := by rw [hw0]; simp
  have hX1 : w0.heap[w.heap.size]? = some (.cells #[.int .i64 8, .int .i64 i, .int .i64 g, .float .f64 r, .string s, .slice ka keys.length kc, .slice a kids.len cap] 26 (0, 0)) := by
    rw [hw0, heap_lt (by simp)]; exact heap_at rfl
  have hX2 : w0.heap[w.heap.size + 1]? = some (.cells #[.int .i64 0, .int .i64 0, .int .i64 0, .float .f64 0, .string ⟨#[]⟩, .slice none 0 0, .slice none 0 0] 31 (0, 0)) := by
    rw [hw0]; exact heap_at (by simp)
  have hS0 : w.heap.size + 1 < w0.heap.size := by omega
  have HN := Lib.hid hn; clear hn hs0
  go_enter Tryz.func24, Tryz.ntmps24
  go_wp2_with fail
  rw [← hw0]
  refine (onlyw 8 i g r s ka keys.length kc a kids.len cap w0 hfld hlk1 hlk2).mono ?_
  rintro e w1 ⟨⟨b, rfl, hb⟩, hK1⟩
  have hK2 : Kept [] w w1 := Kept.trans hK0 hK1 (by simp) (by simp)
  have hX1' := (hK1.block w.heap.size (by omega) (by simp)).trans hX1
  have hX2' := (hK1.block (w.heap.size + 1) (by omega) (by simp)).trans hX2
  have hS1 : w.heap.size + 1 < w1.heap.size := Nat.lt_of_lt_of_le hS0 hK1.size
  have hS2 : w.heap.size < w1.heap.size := by omega
  obtain ⟨⟨c0, c1, c2, c3, c4, c5, c6⟩, _⟩ := seven hX1'
  obtain ⟨⟨e0, e1, e2, e3, e4, e5, e6⟩, p0, p1, p2, p3, p4, p5, p6⟩ := seven hX2'
  have hoff := cell_set_off
  have r0 := fun (X : World) (i j : Nat) (u : Value) => cell_set_other (show w.heap.size + 1 ≠ w.heap.size by omega) i j X u
  clear hw0 hK0 hX1 hX2 hS0 hK1
  have HX1 := Lib.hid hX1'; have HX2 := Lib.hid hX2'; clear hX1' hX2'
  cases b
  case' false =>
    go_wp2_with fail
    refine bodyPost_ret (v := .tuple #[.agg #[.int .i64 0, .int .i64 0, .int .i64 0, .float .f64 0, .string ⟨#[]⟩, .slice none 0 0, .slice none 0 0], .bool false]) (by simp [results, Tryz.results24, go_sem, hoff, e0, e1, e2, e3, e4, e5, e6]) rfl ?_
    exact foNo (kept7 hK2 (.inl (by omega)) _ _ _ _ _ _ _)
  have ho := hb rfl
  clear hb
  have HO := Lib.hid ho; have HIH := Lib.hid ih; clear ho ih
  have hNw : N ≤ w1.heap.size := Nat.le_trans hN hK2.size
  have hn1 := HN.out.kept hK2 (ltk hN (by simp))
  have hks := hn1.keys.2.2
  have HN1 := Lib.hid hn1; have HKS := Lib.hid hks; clear hn1 hks
  by_cases hlen : keys.length = kids.len
  · have zl : ((keys.length : Int) != (kids.len : Int)) = false := by rw [bne_eq_false_iff_eq]; omega
    have HLEN := Lib.hid hlen; clear hlen
    go_wp2_with fail
    go_loop [8, 9, 128] (fun _ _ v => ∃ j : Nat, j ≤ keys.length ∧ v = .int .i64 j ∧ ∀ m (h : m + 1 < keys.length), m + 1 < j → keyGe keys[m] keys[m + 1] = false) (fun _ _ v => keys.length - (intOf v).toNat)
    case atStart => exact ⟨0, by omega, rfl, fun m h hm => by omega⟩
    case round =>
      obtain ⟨j, hj, rfl, hasc⟩ := hrel
      have HASC := Lib.hid hasc; clear hasc
      by_cases hlt : j < keys.length
      · obtain ⟨b, o, rfl, hbN, hc, hsz⟩ := HKS.out j hlt
        have hsz5 : keys[j].size ≤ 140737488355000 := Nat.le_trans hsz (by decide)
        by_cases hj0 : j = 0
        · subst hj0
          simp only [Nat.add_zero] at hc
          go_wp2_with fail
          refine (nameab _ _ hsz5).mono ?_
          rintro e w' ⟨⟨b1, rfl⟩, rfl⟩
          cases b1
          · skip
            go_wp2_with fail
            refine bodyPost_ret (v := .tuple #[.agg #[.int .i64 0, .int .i64 0, .int .i64 0, .float .f64 0, .string ⟨#[]⟩, .slice none 0 0, .slice none 0 0], .bool false]) (by simp [results, Tryz.results24, go_sem, hoff, e0, e1, e2, e3, e4, e5, e6]) rfl ?_
            exact foNo (kept7 hK2 (.inl (by omega)) _ _ _ _ _ _ _)
          · go_wp2_with fail
            refine (signedw _ _ hsz5).mono ?_
            rintro e w' ⟨⟨b2, rfl⟩, rfl⟩
            cases b2
            · go_wp2_with fail
              exact ⟨⟨1, by omega, rfl, fun m h hm => by omega⟩, by simp [intOf]; omega⟩
            · skip
              go_wp2_with fail
              refine bodyPost_ret (v := .tuple #[.agg #[.int .i64 0, .int .i64 0, .int .i64 0, .float .f64 0, .string ⟨#[]⟩, .slice none 0 0, .slice none 0 0], .bool false]) (by simp [results, Tryz.results24, go_sem, hoff, e0, e1, e2, e3, e4, e5, e6]) rfl ?_
              exact foNo (kept7 hK2 (.inl (by omega)) _ _ _ _ _ _ _)
        · obtain ⟨m, rfl⟩ : ∃ m, j = m + 1 := ⟨j - 1, by omega⟩
          obtain ⟨b', o', he, _, hc', _⟩ := HKS.out m (by omega)
          cases he
          cases hge : keyGe keys[m] keys[m + 1]
          · have hb0 : Op.bytesLess keys[m].toList keys[m + 1].toList = true := by unfold keyGe at hge; simpa using hge
            have HGE := Lib.hid hge; clear hge
            go_wp2_with fail
            refine (nameab _ _ hsz5).mono ?_
            rintro e w' ⟨⟨b1, rfl⟩, rfl⟩
            cases b1
            · skip
              go_wp2_with fail
              refine bodyPost_ret (v := .tuple #[.agg #[.int .i64 0, .int .i64 0, .int .i64 0, .float .f64 0, .string ⟨#[]⟩, .slice none 0 0, .slice none 0 0], .bool false]) (by simp [results, Tryz.results24, go_sem, hoff, e0, e1, e2, e3, e4, e5, e6]) rfl ?_
              exact foNo (kept7 hK2 (.inl (by omega)) _ _ _ _ _ _ _)
            · go_wp2_with fail
              refine (signedw _ _ hsz5).mono ?_
              rintro e w' ⟨⟨b2, rfl⟩, rfl⟩
              cases b2
              · go_wp2_with fail
                refine ⟨⟨m + 1 + 1, by omega, by go_num, fun q h hm => ?_⟩, by simp [intOf]; omega⟩
                by_cases hq : q = m
                · subst hq; exact HGE.out
                · exact HASC.out q h (by omega)
              · skip
                go_wp2_with fail
                refine bodyPost_ret (v := .tuple #[.agg #[.int .i64 0, .int .i64 0, .int .i64 0, .float .f64 0, .string ⟨#[]⟩, .slice none 0 0, .slice none 0 0], .bool false]) (by simp [results, Tryz.results24, go_sem, hoff, e0, e1, e2, e3, e4, e5, e6]) rfl ?_
                exact foNo (kept7 hK2 (.inl (by omega)) _ _ _ _ _ _ _)
          · have hb0 : Op.bytesLess keys[m].toList keys[m + 1].toList = false := by unfold keyGe at hge; simpa using hge
            clear hge
            go_wp2_with fail
            refine (nameab _ _ hsz5).mono ?_
            rintro e w' ⟨⟨b1, rfl⟩, rfl⟩
            cases b1
            · skip
              go_wp2_with fail
              refine bodyPost_ret (v := .tuple #[.agg #[.int .i64 0, .int .i64 0, .int .i64 0, .float .f64 0, .string ⟨#[]⟩, .slice none 0 0, .slice none 0 0], .bool false]) (by simp [results, Tryz.results24, go_sem, hoff, e0, e1, e2, e3, e4, e5, e6]) rfl ?_
              exact foNo (kept7 hK2 (.inl (by omega)) _ _ _ _ _ _ _)
            · go_wp2_with fail
              refine (signedw _ _ hsz5).mono ?_
              rintro e w' ⟨⟨b2, rfl⟩, rfl⟩
              cases b2
              · skip
                go_wp2_with fail
                refine bodyPost_ret (v := .tuple #[.agg #[.int .i64 0, .int .i64 0, .int .i64 0, .float .f64 0, .string ⟨#[]⟩, .slice none 0 0, .slice none 0 0], .bool false]) (by simp [results, Tryz.results24, go_sem, hoff, e0, e1, e2, e3, e4, e5, e6]) rfl ?_
                exact foNo (kept7 hK2 (.inl (by omega)) _ _ _ _ _ _ _)
              · skip
                go_wp2_with fail
                refine bodyPost_ret (v := .tuple #[.agg #[.int .i64 0, .int .i64 0, .int .i64 0, .float .f64 0, .string ⟨#[]⟩, .slice none 0 0, .slice none 0 0], .bool false]) (by simp [results, Tryz.results24, go_sem, hoff, e0, e1, e2, e3, e4, e5, e6]) rfl ?_
                exact foNo (kept7 hK2 (.inl (by omega)) _ _ _ _ _ _ _)
      · have hasc2 : ∀ m (h : m + 1 < keys.length), keyGe keys[m] keys[m + 1] = false := fun m h => HASC.out m h (by omega)
        have HA2 := Lib.hid hasc2; clear hasc2
        go_wp2_with fail
        refine (fkids N 7 ka keys.length kc 8 i g r s keys kids ka kc a cap w1 HN1.out (ht.kept hK2 hN (by simp)) hNw HIH.out).mono ?_
        rintro e w3 ⟨hK3, k3, i3, g3, r3, s3, ka3, nk3, kc3, a3, nd3, cap3, b3, rfl, hb3⟩
        have hX2'' := (hK3.block (w.heap.size + 1) hS1 (by simp)).trans HX2.out
        clear c0 c1 c2 c3 c4 c5 c6 e0 e1 e2 e3 e4 e5 e6 p0 p1 p2 p3 p4 p5 p6 r0
        obtain ⟨⟨e0, e1, e2, e3, e4, e5, e6⟩, p0, p1, p2, p3, p4, p5, p6⟩ := seven hX2''
        clear hX2''
        have HB3 := Lib.hid hb3; clear hb3
        go_wp2_with fail
        refine bodyPost_ret (v := .tuple #[.agg #[.int .i64 k3, .int .i64 i3, .int .i64 g3, .float .f64 r3, .string s3, .slice ka3 nk3 kc3, .slice a3 nd3 cap3], .bool b3]) (by simp [results, Tryz.results24, go_sem, hoff, e0, e1, e2, e3, e4, e5, e6]) rfl ?_
        exact foKids (keys0 := keys) hN hK2 hS1 hK3 HB3.out.1 HB3.out.2 (fun _ => ⟨HO.out, by omega, by omega, by omega, by omega, fun _ => HLEN.out, fun _ => HA2.out⟩) ⟨by decide, by omega, by omega⟩ ⟨HN1.out.keys, fun _ => rfl⟩
  · have zl : ((keys.length : Int) != (kids.len : Int)) = true := by rw [bne_iff_ne]; omega
    go_wp2_with fail
    refine bodyPost_ret (v := .tuple #[.agg #[.int .i64 0, .int .i64 0, .int .i64 0, .float .f64 0, .string ⟨#[]⟩, .slice none 0 0, .slice none 0 0], .bool false]) (by simp [results, Tryz.results24, go_sem, hoff, e0, e1, e2, e3, e4, e5, e6]) rfl ?_
    exact foNo (kept7 hK2 (.inl (by omega)) _ _ _ _ _ _ _)
end Go.Proofs.YtfkecmlmnhbmoaaGreatDoor
