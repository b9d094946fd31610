import Derived.Test.YtfkecmlmnhbmoaaGreatDoorDs25
import Derived.BigRegion
import Derived.Deep.RegionWith
import Derived.Deep.RegionHeld3
import Derived.Test.YtfkecmlmnhbmoaaGreatDoorDs06
import Derived.Lib.ItoaLen
namespace Go.Proofs.YtfkecmlmnhbmoaaGreatDoor
open Go.RowKit
theorem leafNode {P : Nat → Prop} {w : World} {k i g : Int} {r : Nat} {s : ByteArray} (h : Fld k i g r s) : Node P w k i g r s [] .nil none 0 none 0 :=
  ⟨h, ⟨by simp, by simp, fun i hi => by simp at hi⟩, ⟨by simp [F.len], by simp [F.len], .inl rfl⟩⟩
theorem foNo {N : Nat} {w w' : World} {k i g : Int} {r : Nat} {s : ByteArray} {keys : List ByteArray} {kids : F} (hK : Kept [] w w') : FoE N w k i g r s keys kids (.returned (.tuple #[.agg #[.int .i64 0, .int .i64 0, .int .i64 0, .float .f64 0, .string ⟨#[]⟩, .slice none 0 0, .slice none 0 0], .bool false])) w' :=
  ⟨hK, 0, 0, 0, 0, ⟨#[]⟩, none, 0, 0, none, 0, 0, false, rfl, (fun h => by cases h), fun _ => ⟨[], .nil, rfl, rfl, leafNode ⟨⟨by decide, by decide⟩, ⟨by decide, by decide⟩, ⟨by decide, by decide⟩, by decide, by decide⟩⟩⟩
/-- A value without parts. -/
theorem foLeaf {N : Nat} {w w' : World} {k i g k' i' g' : Int} {r r' : Nat} {s s' : ByteArray} {keys : List ByteArray} {kids : F} {b : Bool} (hK : Kept [] w w') (hf : Fld k' i' g' r' s') (hg : b = true → Good1 k i g r s keys kids ∧ kids = .nil) (hk : (k = 0 ↔ k' = 0) ∧ k ≠ 8) :
    FoE N w k i g r s keys kids (.returned (.tuple #[.agg #[.int .i64 k', .int .i64 i', .int .i64 g', .float .f64 r', .string s', .slice none 0 0, .slice none 0 0], .bool b])) w' :=
  ⟨hK, k', i', g', r', s', none, 0, 0, none, 0, 0, b, rfl, fun hb => by
    obtain ⟨h1, rfl⟩ := hg hb
    exact ⟨h1, trivial, [], .nil, rfl, rfl, leafNode hf, ⟨hk.1, fun h => absurd h hk.2⟩, trivial⟩, fun _ => ⟨[], .nil, rfl, rfl, leafNode hf⟩⟩
theorem onlyNil {k i g : Int} {r : Nat} {s : ByteArray} {nk : Nat} {kids : F} (h : Only k i g r s nk kids.len) (hk : k ≠ 7 ∧ k ≠ 8) : kids = .nil := by
  rcases h.kids with h | h | h
  · exact F.len_zero h
  · exact absurd h hk.1
  · exact absurd h hk.2
set_option maxRecDepth 100000 in
set_option maxHeartbeats 8000000 in
theorem fo0 (i g : Int) (r : Nat) (s : ByteArray) (keys : List ByteArray) (kids : F) : FoC 0 i g r s keys kids := by
  intro N ka kc a cap w hn ht hN
  have hfld := hn.fld
  obtain ⟨⟨k1, k2⟩, ⟨i1, i2⟩, ⟨g1, g2⟩, r1, s1⟩ := hn.fld
  have hlk1 : keys.length ≤ 140737488351232 := by have := hn.keys.2.1; omega
  have hlk2 : kids.len ≤ 140737488351232 := by have := hn.kids.2.1; omega
  obtain ⟨w0, hw0⟩ : ∃ w0, w0 = (w.alloc (.cells #[.int .i64 0, .int .i64 i, .int .i64 g, .float .f64 r, .string s, .slice ka keys.length kc, .slice a kids.len cap] 26)).alloc (.cells #[.int .i64 0, .int .i64 0, .int .i64 0, .float .f64 0, .string ⟨#[]⟩, .slice none 0 0, .slice none 0 0] 31) := ⟨_, rfl⟩
  have hK0 : Kept [] w w0 := by rw [hw0]; exact ((Kept.refl [] w).alloc _).alloc _
  have hs0 : w0.heap.size = w.heap.size + 2 := by rw [hw0]; simp
  have hX1 : w0.heap[w.heap.size]? = some (.cells #[.int .i64 0, .int .i64 i, .int .i64 g, .float .f64 r, .string s, .slice ka keys.length kc, .slice a kids.len cap] 26 (0, 0)) := by
    rw [hw0, heap_lt (by simp)]; exact heap_at rfl
  have hX2 : w0.heap[w.heap.size + 1]? = some (.cells #[.int .i64 0, .int .i64 0, .int .i64 0, .float .f64 0, .string ⟨#[]⟩, .slice none 0 0, .slice none 0 0] 31 (0, 0)) := by
    rw [hw0]; exact heap_at (by simp)
  have hS0 : w.heap.size + 1 < w0.heap.size := by omega
  have HN := Lib.hid hn; clear hn hs0
  go_enter Tryz.func24, Tryz.ntmps24
  go_wp2_with fail
  rw [← hw0]
  refine (onlyw 0 i g r s ka keys.length kc a kids.len cap w0 hfld hlk1 hlk2).mono ?_
  rintro e w1 ⟨⟨b, rfl, hb⟩, hK1⟩
  have hK2 : Kept [] w w1 := Kept.trans hK0 hK1 (by simp) (by simp)
  have hX1' := (hK1.block w.heap.size (by omega) (by simp)).trans hX1
  have hX2' := (hK1.block (w.heap.size + 1) (by omega) (by simp)).trans hX2
  have hS1 : w.heap.size + 1 < w1.heap.size := Nat.lt_of_lt_of_le hS0 hK1.size
  have hS2 : w.heap.size < w1.heap.size := by omega
  obtain ⟨⟨c0, c1, c2, c3, c4, c5, c6⟩, _⟩ := seven hX1'
  obtain ⟨⟨e0, e1, e2, e3, e4, e5, e6⟩, p0, p1, p2, p3, p4, p5, p6⟩ := seven hX2'
  have hoff := cell_set_off
  have r0 := fun (X : World) (i j : Nat) (u : Value) => cell_set_other (show w.heap.size + 1 ≠ w.heap.size by omega) i j X u
  clear hw0 hK0 hX1 hX2 hS0 hK1
  have HX1 := Lib.hid hX1'; have HX2 := Lib.hid hX2'; clear hX1' hX2'
  cases b
  case' false =>
    go_wp2_with fail
    refine bodyPost_ret (v := .tuple #[.agg #[.int .i64 0, .int .i64 0, .int .i64 0, .float .f64 0, .string ⟨#[]⟩, .slice none 0 0, .slice none 0 0], .bool false]) (by simp [results, Tryz.results24, go_sem, hoff, e0, e1, e2, e3, e4, e5, e6]) rfl ?_
    exact foNo (kept7 hK2 (.inl (by omega)) _ _ _ _ _ _ _)
  have ho := hb rfl
  clear hb
  have HO := Lib.hid ho; clear ho
  go_wp2_with fail
  refine bodyPost_ret (v := .tuple #[.agg #[.int .i64 0, .int .i64 0, .int .i64 0, .float .f64 0, .string ⟨#[]⟩, .slice none 0 0, .slice none 0 0], .bool true]) (by simp [results, Tryz.results24, go_sem, hoff, e0, e1, e2, e3, e4, e5, e6]) rfl ?_
  exact foLeaf (kept7 hK2 (.inl (by omega)) _ _ _ _ _ _ _) (⟨⟨by omega, by omega⟩, ⟨by omega, by omega⟩, ⟨by omega, by omega⟩, by omega, Nat.zero_le _⟩) (fun _ => ⟨⟨HO.out, by omega, by omega, by omega, by omega, by omega, by omega⟩, onlyNil HO.out (by decide)⟩) (by decide)
set_option maxRecDepth 100000 in
set_option maxHeartbeats 8000000 in
theorem fo1 (i g : Int) (r : Nat) (s : ByteArray) (keys : List ByteArray) (kids : F) : FoC 1 i g r s keys kids := by
  intro N ka kc a cap w hn ht hN
  have hfld := hn.fld
  obtain ⟨⟨k1, k2⟩, ⟨i1, i2⟩, ⟨g1, g2⟩, r1, s1⟩ := hn.fld
  have hlk1 : keys.length ≤ 140737488351232 := by have := hn.keys.2.1; omega
  have hlk2 : kids.len ≤ 140737488351232 := by have := hn.kids.2.1; omega
  obtain ⟨w0, hw0⟩ : ∃ w0, w0 = (w.alloc (.cells #[.int .i64 1, .int .i64 i, .int .i64 g, .float .f64 r, .string s, .slice ka keys.length kc, .slice a kids.len cap] 26)).alloc (.cells #[.int .i64 0, .int .i64 0, .int .i64 0, .float .f64 0, .string ⟨#[]⟩, .slice none 0 0, .slice none 0 0] 31) := ⟨_, rfl⟩
  have hK0 : Kept [] w w0 := by rw [hw0]; exact ((Kept.refl [] w).alloc _).alloc _
  have hs0 : w0.heap.size = w.heap.size + 2 := by rw [hw0]; simp
  have hX1 : w0.heap[w.heap.size]? = some (.cells #[.int .i64 1, .int .i64 i, .int .i64 g, .float .f64 r, .string s, .slice ka keys.length kc, .slice a kids.len cap] 26 (0, 0)) := by
    rw [hw0, heap_lt (by simp)]; exact heap_at rfl
  have hX2 : w0.heap[w.heap.size + 1]? = some (.cells #[.int .i64 0, .int .i64 0, .int .i64 0, .float .f64 0, .string ⟨#[]⟩, .slice none 0 0, .slice none 0 0] 31 (0, 0)) := by
    rw [hw0]; exact heap_at (by simp)
  have hS0 : w.heap.size + 1 < w0.heap.size := by omega
  have HN := Lib.hid hn; clear hn hs0
  go_enter Tryz.func24, Tryz.ntmps24
  go_wp2_with fail
  rw [← hw0]
  refine (onlyw 1 i g r s ka keys.length kc a kids.len cap w0 hfld hlk1 hlk2).mono ?_
  rintro e w1 ⟨⟨b, rfl, hb⟩, hK1⟩
  have hK2 : Kept [] w w1 := Kept.trans hK0 hK1 (by simp) (by simp)
  have hX1' := (hK1.block w.heap.size (by omega) (by simp)).trans hX1
  have hX2' := (hK1.block (w.heap.size + 1) (by omega) (by simp)).trans hX2
  have hS1 : w.heap.size + 1 < w1.heap.size := Nat.lt_of_lt_of_le hS0 hK1.size
  have hS2 : w.heap.size < w1.heap.size := by omega
  obtain ⟨⟨c0, c1, c2, c3, c4, c5, c6⟩, _⟩ := seven hX1'
  obtain ⟨⟨e0, e1, e2, e3, e4, e5, e6⟩, p0, p1, p2, p3, p4, p5, p6⟩ := seven hX2'
  have hoff := cell_set_off
  have r0 := fun (X : World) (i j : Nat) (u : Value) => cell_set_other (show w.heap.size + 1 ≠ w.heap.size by omega) i j X u
  clear hw0 hK0 hX1 hX2 hS0 hK1
  have HX1 := Lib.hid hX1'; have HX2 := Lib.hid hX2'; clear hX1' hX2'
  cases b
  case' false =>
    go_wp2_with fail
    refine bodyPost_ret (v := .tuple #[.agg #[.int .i64 0, .int .i64 0, .int .i64 0, .float .f64 0, .string ⟨#[]⟩, .slice none 0 0, .slice none 0 0], .bool false]) (by simp [results, Tryz.results24, go_sem, hoff, e0, e1, e2, e3, e4, e5, e6]) rfl ?_
    exact foNo (kept7 hK2 (.inl (by omega)) _ _ _ _ _ _ _)
  have ho := hb rfl
  clear hb
  have HO := Lib.hid ho; clear ho
  by_cases hi : i = 0
  · have zi : (i == 0) = true := beq_iff_eq.2 hi
    have HI := Lib.hid hi; clear hi
    go_wp2_with fail
    go_region
    go_wp2_with fail
    refine bodyPost_ret (v := .tuple #[.agg #[.int .i64 1, .int .i64 i, .int .i64 0, .float .f64 0, .string ⟨#[]⟩, .slice none 0 0, .slice none 0 0], .bool true]) (by simp [results, Tryz.results24, go_sem, hoff, e0, e1, e2, e3, e4, e5, e6]) rfl ?_
    exact foLeaf (by first | exact (kept7 hK2 (.inl (by omega)) _ _ _ _ _ _ _).drew | exact kept7 hK2.drew (.inl (by omega)) _ _ _ _ _ _ _) (⟨⟨by omega, by omega⟩, ⟨i1, i2⟩, ⟨by omega, by omega⟩, by omega, Nat.zero_le _⟩) (fun _ => ⟨⟨HO.out, by omega, by omega, fun _ => .inl HI.out, by omega, by omega, by omega⟩, onlyNil HO.out (by decide)⟩) (by decide)
  · have zi : (i == 0) = false := beq_eq_false_iff_ne.2 hi
    go_wp2_with fail
    go_region
    go_wp2_with fail
    refine bodyPost_ret (v := .tuple #[.agg #[.int .i64 1, .int .i64 i, .int .i64 0, .float .f64 0, .string ⟨#[]⟩, .slice none 0 0, .slice none 0 0], .bool (i == 1)]) (by simp [results, Tryz.results24, go_sem, hoff, e0, e1, e2, e3, e4, e5, e6]) rfl ?_
    exact foLeaf (by first | exact (kept7 hK2 (.inl (by omega)) _ _ _ _ _ _ _).drew | exact kept7 hK2.drew (.inl (by omega)) _ _ _ _ _ _ _) (⟨⟨by omega, by omega⟩, ⟨i1, i2⟩, ⟨by omega, by omega⟩, by omega, Nat.zero_le _⟩) (fun h => ⟨⟨HO.out, by omega, by omega, fun _ => .inr (by simpa using h), by omega, by omega, by omega⟩, onlyNil HO.out (by decide)⟩) (by decide)
set_option maxRecDepth 100000 in
set_option maxHeartbeats 8000000 in
theorem fo2 (i g : Int) (r : Nat) (s : ByteArray) (keys : List ByteArray) (kids : F) : FoC 2 i g r s keys kids := by
  intro N ka kc a cap w hn ht hN
  have hfld := hn.fld
  obtain ⟨⟨k1, k2⟩, ⟨i1, i2⟩, ⟨g1, g2⟩, r1, s1⟩ := hn.fld
  have hlk1 : keys.length ≤ 140737488351232 := by have := hn.keys.2.1; omega
  have hlk2 : kids.len ≤ 140737488351232 := by have := hn.kids.2.1; omega
  obtain ⟨w0, hw0⟩ : ∃ w0, w0 = (w.alloc (.cells #[.int .i64 2, .int .i64 i, .int .i64 g, .float .f64 r, .string s, .slice ka keys.length kc, .slice a kids.len cap] 26)).alloc (.cells #[.int .i64 0, .int .i64 0, .int .i64 0, .float .f64 0, .string ⟨#[]⟩, .slice none 0 0, .slice none 0 0] 31) := ⟨_, rfl⟩
  have hK0 : Kept [] w w0 := by rw [hw0]; exact ((Kept.refl [] w).alloc _).alloc _
  have hs0 : w0.heap.size = w.heap.size + 2 := by rw [hw0]; simp
  have hX1 : w0.heap[w.heap.size]? = some (.cells #[.int .i64 2, .int .i64 i, .int .i64 g, .float .f64 r, .string s, .slice ka keys.length kc, .slice a kids.len cap] 26 (0, 0)) := by
    rw [hw0, heap_lt (by simp)]; exact heap_at rfl
  have hX2 : w0.heap[w.heap.size + 1]? = some (.cells #[.int .i64 0, .int .i64 0, .int .i64 0, .float .f64 0, .string ⟨#[]⟩, .slice none 0 0, .slice none 0 0] 31 (0, 0)) := by
    rw [hw0]; exact heap_at (by simp)
  have hS0 : w.heap.size + 1 < w0.heap.size := by omega
  have HN := Lib.hid hn; clear hn hs0
  go_enter Tryz.func24, Tryz.ntmps24
  go_wp2_with fail
  rw [← hw0]
  refine (onlyw 2 i g r s ka keys.length kc a kids.len cap w0 hfld hlk1 hlk2).mono ?_
  rintro e w1 ⟨⟨b, rfl, hb⟩, hK1⟩
  have hK2 : Kept [] w w1 := Kept.trans hK0 hK1 (by simp) (by simp)
  have hX1' := (hK1.block w.heap.size (by omega) (by simp)).trans hX1
  have hX2' := (hK1.block (w.heap.size + 1) (by omega) (by simp)).trans hX2
  have hS1 : w.heap.size + 1 < w1.heap.size := Nat.lt_of_lt_of_le hS0 hK1.size
  have hS2 : w.heap.size < w1.heap.size := by omega
  obtain ⟨⟨c0, c1, c2, c3, c4, c5, c6⟩, _⟩ := seven hX1'
  obtain ⟨⟨e0, e1, e2, e3, e4, e5, e6⟩, p0, p1, p2, p3, p4, p5, p6⟩ := seven hX2'
  have hoff := cell_set_off
  have r0 := fun (X : World) (i j : Nat) (u : Value) => cell_set_other (show w.heap.size + 1 ≠ w.heap.size by omega) i j X u
  clear hw0 hK0 hX1 hX2 hS0 hK1
  have HX1 := Lib.hid hX1'; have HX2 := Lib.hid hX2'; clear hX1' hX2'
  cases b
  case' false =>
    go_wp2_with fail
    refine bodyPost_ret (v := .tuple #[.agg #[.int .i64 0, .int .i64 0, .int .i64 0, .float .f64 0, .string ⟨#[]⟩, .slice none 0 0, .slice none 0 0], .bool false]) (by simp [results, Tryz.results24, go_sem, hoff, e0, e1, e2, e3, e4, e5, e6]) rfl ?_
    exact foNo (kept7 hK2 (.inl (by omega)) _ _ _ _ _ _ _)
  have ho := hb rfl
  clear hb
  have HO := Lib.hid ho; clear ho
  by_cases hi : -2147483648 ≤ i
  · have zi : decide (-2147483648 ≤ i) = true := by simp; omega
    go_wp2_with fail
    go_region
    go_wp2_with fail
    refine bodyPost_ret (v := .tuple #[.agg #[.int .i64 2, .int .i64 i, .int .i64 0, .float .f64 0, .string ⟨#[]⟩, .slice none 0 0, .slice none 0 0], .bool (decide (i < 2147483648))]) (by simp [results, Tryz.results24, go_sem, hoff, e0, e1, e2, e3, e4, e5, e6]) rfl ?_
    exact foLeaf (by first | exact (kept7 hK2 (.inl (by omega)) _ _ _ _ _ _ _).drew | exact kept7 hK2.drew (.inl (by omega)) _ _ _ _ _ _ _) (⟨⟨by omega, by omega⟩, ⟨i1, i2⟩, ⟨by omega, by omega⟩, by omega, Nat.zero_le _⟩) (fun _ => ⟨⟨HO.out, by omega, by omega, by omega, by omega, by omega, by omega⟩, onlyNil HO.out (by decide)⟩) (by decide)
  · have zi : decide (-2147483648 ≤ i) = false := by simp; omega
    go_wp2_with fail
    go_region
    go_wp2_with fail
    refine bodyPost_ret (v := .tuple #[.agg #[.int .i64 2, .int .i64 i, .int .i64 0, .float .f64 0, .string ⟨#[]⟩, .slice none 0 0, .slice none 0 0], .bool false]) (by simp [results, Tryz.results24, go_sem, hoff, e0, e1, e2, e3, e4, e5, e6]) rfl ?_
    exact foLeaf (by first | exact (kept7 hK2 (.inl (by omega)) _ _ _ _ _ _ _).drew | exact kept7 hK2.drew (.inl (by omega)) _ _ _ _ _ _ _) (⟨⟨by omega, by omega⟩, ⟨i1, i2⟩, ⟨by omega, by omega⟩, by omega, Nat.zero_le _⟩) (fun h => by cases h) (by decide)
set_option maxRecDepth 100000 in
set_option maxHeartbeats 8000000 in
theorem fo4 (i g : Int) (r : Nat) (s : ByteArray) (keys : List ByteArray) (kids : F) : FoC 4 i g r s keys kids := by
  intro N ka kc a cap w hn ht hN
  have hfld := hn.fld
  obtain ⟨⟨k1, k2⟩, ⟨i1, i2⟩, ⟨g1, g2⟩, r1, s1⟩ := hn.fld
  have hlk1 : keys.length ≤ 140737488351232 := by have := hn.keys.2.1; omega
  have hlk2 : kids.len ≤ 140737488351232 := by have := hn.kids.2.1; omega
  obtain ⟨w0, hw0⟩ : ∃ w0, w0 = (w.alloc (.cells #[.int .i64 4, .int .i64 i, .int .i64 g, .float .f64 r, .string s, .slice ka keys.length kc, .slice a kids.len cap] 26)).alloc (.cells #[.int .i64 0, .int .i64 0, .int .i64 0, .float .f64 0, .string ⟨#[]⟩, .slice none 0 0, .slice none 0 0] 31) := ⟨_, rfl⟩
  have hK0 : Kept [] w w0 := by rw [hw0]; exact ((Kept.refl [] w).alloc _).alloc _
  have hs0 : w0.heap.size = w.heap.size + 2 := by rw [hw0]; simp
  have hX1 : w0.heap[w.heap.size]? = some (.cells #[.int .i64 4, .int .i64 i, .int .i64 g, .float .f64 r, .string s, .slice ka keys.length kc, .slice a kids.len cap] 26 (0, 0)) := by
    rw [hw0, heap_lt (by simp)]; exact heap_at rfl
  have hX2 : w0.heap[w.heap.size + 1]? = some (.cells #[.int .i64 0, .int .i64 0, .int .i64 0, .float .f64 0, .string ⟨#[]⟩, .slice none 0 0, .slice none 0 0] 31 (0, 0)) := by
    rw [hw0]; exact heap_at (by simp)
  have hS0 : w.heap.size + 1 < w0.heap.size := by omega
  have HN := Lib.hid hn; clear hn hs0
  go_enter Tryz.func24, Tryz.ntmps24
  go_wp2_with fail
  rw [← hw0]
  refine (onlyw 4 i g r s ka keys.length kc a kids.len cap w0 hfld hlk1 hlk2).mono ?_
  rintro e w1 ⟨⟨b, rfl, hb⟩, hK1⟩
  have hK2 : Kept [] w w1 := Kept.trans hK0 hK1 (by simp) (by simp)
  have hX1' := (hK1.block w.heap.size (by omega) (by simp)).trans hX1
  have hX2' := (hK1.block (w.heap.size + 1) (by omega) (by simp)).trans hX2
  have hS1 : w.heap.size + 1 < w1.heap.size := Nat.lt_of_lt_of_le hS0 hK1.size
  have hS2 : w.heap.size < w1.heap.size := by omega
  obtain ⟨⟨c0, c1, c2, c3, c4, c5, c6⟩, _⟩ := seven hX1'
  obtain ⟨⟨e0, e1, e2, e3, e4, e5, e6⟩, p0, p1, p2, p3, p4, p5, p6⟩ := seven hX2'
  have hoff := cell_set_off
  have r0 := fun (X : World) (i j : Nat) (u : Value) => cell_set_other (show w.heap.size + 1 ≠ w.heap.size by omega) i j X u
  clear hw0 hK0 hX1 hX2 hS0 hK1
  have HX1 := Lib.hid hX1'; have HX2 := Lib.hid hX2'; clear hX1' hX2'
  cases b
  case' false =>
    go_wp2_with fail
    refine bodyPost_ret (v := .tuple #[.agg #[.int .i64 0, .int .i64 0, .int .i64 0, .float .f64 0, .string ⟨#[]⟩, .slice none 0 0, .slice none 0 0], .bool false]) (by simp [results, Tryz.results24, go_sem, hoff, e0, e1, e2, e3, e4, e5, e6]) rfl ?_
    exact foNo (kept7 hK2 (.inl (by omega)) _ _ _ _ _ _ _)
  have ho := hb rfl
  clear hb
  have HO := Lib.hid ho; clear ho
  go_wp2_with fail
  refine (litb s w1 (by omega)).mono ?_
  rintro e w3 ⟨⟨str, b, rfl, hss⟩, hK3⟩
  have hX2'' := (hK3.block (w.heap.size + 1) hS1 (by simp)).trans HX2.out
  clear c0 c1 c2 c3 c4 c5 c6 e0 e1 e2 e3 e4 e5 e6 p0 p1 p2 p3 p4 p5 p6 r0
  obtain ⟨⟨e0, e1, e2, e3, e4, e5, e6⟩, p0, p1, p2, p3, p4, p5, p6⟩ := seven hX2''
  clear hX2''
  have hK4 := Kept.trans (Z := []) hK2 hK3 (by simp) (by simp)
  go_wp2_with fail
  refine bodyPost_ret (v := .tuple #[.agg #[.int .i64 4, .int .i64 0, .int .i64 0, .float .f64 0, .string str, .slice none 0 0, .slice none 0 0], .bool b]) (by simp [results, Tryz.results24, go_sem, hoff, e0, e1, e2, e3, e4, e5, e6]) rfl ?_
  exact foLeaf (kept7 hK4 (.inl (by omega)) _ _ _ _ _ _ _) (⟨⟨by omega, by omega⟩, ⟨by omega, by omega⟩, ⟨by omega, by omega⟩, by omega, by omega⟩) (fun _ => ⟨⟨HO.out, by omega, by omega, by omega, by omega, by omega, by omega⟩, onlyNil HO.out (by decide)⟩) (by decide)
set_option maxRecDepth 100000 in
set_option maxHeartbeats 8000000 in
theorem fo5 (i g : Int) (r : Nat) (s : ByteArray) (keys : List ByteArray) (kids : F) : FoC 5 i g r s keys kids := by
  intro N ka kc a cap w hn ht hN
  have hfld := hn.fld
  obtain ⟨⟨k1, k2⟩, ⟨i1, i2⟩, ⟨g1, g2⟩, r1, s1⟩ := hn.fld
  have hlk1 : keys.length ≤ 140737488351232 := by have := hn.keys.2.1; omega
  have hlk2 : kids.len ≤ 140737488351232 := by have := hn.kids.2.1; omega
  obtain ⟨w0, hw0⟩ : ∃ w0, w0 = (w.alloc (.cells #[.int .i64 5, .int .i64 i, .int .i64 g, .float .f64 r, .string s, .slice ka keys.length kc, .slice a kids.len cap] 26)).alloc (.cells #[.int .i64 0, .int .i64 0, .int .i64 0, .float .f64 0, .string ⟨#[]⟩, .slice none 0 0, .slice none 0 0] 31) := ⟨_, rfl⟩
  have hK0 : Kept [] w w0 := by rw [hw0]; exact ((Kept.refl [] w).alloc _).alloc _
  have hs0 : w0.heap.size = w.heap.size + 2 := by rw [hw0]; simp
  have hX1 : w0.heap[w.heap.size]? = some (.cells #[.int .i64 5, .int .i64 i, .int .i64 g, .float .f64 r, .string s, .slice ka keys.length kc, .slice a kids.len cap] 26 (0, 0)) := by
    rw [hw0, heap_lt (by simp)]; exact heap_at rfl
  have hX2 : w0.heap[w.heap.size + 1]? = some (.cells #[.int .i64 0, .int .i64 0, .int .i64 0, .float .f64 0, .string ⟨#[]⟩, .slice none 0 0, .slice none 0 0] 31 (0, 0)) := by
    rw [hw0]; exact heap_at (by simp)
  have hS0 : w.heap.size + 1 < w0.heap.size := by omega
  have HN := Lib.hid hn; clear hn hs0
  go_enter Tryz.func24, Tryz.ntmps24
  go_wp2_with fail
  rw [← hw0]
  refine (onlyw 5 i g r s ka keys.length kc a kids.len cap w0 hfld hlk1 hlk2).mono ?_
  rintro e w1 ⟨⟨b, rfl, hb⟩, hK1⟩
  have hK2 : Kept [] w w1 := Kept.trans hK0 hK1 (by simp) (by simp)
  have hX1' := (hK1.block w.heap.size (by omega) (by simp)).trans hX1
  have hX2' := (hK1.block (w.heap.size + 1) (by omega) (by simp)).trans hX2
  have hS1 : w.heap.size + 1 < w1.heap.size := Nat.lt_of_lt_of_le hS0 hK1.size
  have hS2 : w.heap.size < w1.heap.size := by omega
  obtain ⟨⟨c0, c1, c2, c3, c4, c5, c6⟩, _⟩ := seven hX1'
  obtain ⟨⟨e0, e1, e2, e3, e4, e5, e6⟩, p0, p1, p2, p3, p4, p5, p6⟩ := seven hX2'
  have hoff := cell_set_off
  have r0 := fun (X : World) (i j : Nat) (u : Value) => cell_set_other (show w.heap.size + 1 ≠ w.heap.size by omega) i j X u
  clear hw0 hK0 hX1 hX2 hS0 hK1
  have HX1 := Lib.hid hX1'; have HX2 := Lib.hid hX2'; clear hX1' hX2'
  cases b
  case' false =>
    go_wp2_with fail
    refine bodyPost_ret (v := .tuple #[.agg #[.int .i64 0, .int .i64 0, .int .i64 0, .float .f64 0, .string ⟨#[]⟩, .slice none 0 0, .slice none 0 0], .bool false]) (by simp [results, Tryz.results24, go_sem, hoff, e0, e1, e2, e3, e4, e5, e6]) rfl ?_
    exact foNo (kept7 hK2 (.inl (by omega)) _ _ _ _ _ _ _)
  have ho := hb rfl
  clear hb
  have HO := Lib.hid ho; clear ho
  go_wp2_with fail
  refine (hexb s w1 (by omega)).mono ?_
  rintro e w3 ⟨⟨str, b, rfl, hss⟩, hK3⟩
  have hX2'' := (hK3.block (w.heap.size + 1) hS1 (by simp)).trans HX2.out
  clear c0 c1 c2 c3 c4 c5 c6 e0 e1 e2 e3 e4 e5 e6 p0 p1 p2 p3 p4 p5 p6 r0
  obtain ⟨⟨e0, e1, e2, e3, e4, e5, e6⟩, p0, p1, p2, p3, p4, p5, p6⟩ := seven hX2''
  clear hX2''
  have hK4 := Kept.trans (Z := []) hK2 hK3 (by simp) (by simp)
  go_wp2_with fail
  refine bodyPost_ret (v := .tuple #[.agg #[.int .i64 4, .int .i64 0, .int .i64 0, .float .f64 0, .string str, .slice none 0 0, .slice none 0 0], .bool b]) (by simp [results, Tryz.results24, go_sem, hoff, e0, e1, e2, e3, e4, e5, e6]) rfl ?_
  exact foLeaf (kept7 hK4 (.inl (by omega)) _ _ _ _ _ _ _) (⟨⟨by omega, by omega⟩, ⟨by omega, by omega⟩, ⟨by omega, by omega⟩, by omega, by omega⟩) (fun _ => ⟨⟨HO.out, by omega, by omega, by omega, by omega, by omega, by omega⟩, onlyNil HO.out (by decide)⟩) (by decide)
end Go.Proofs.YtfkecmlmnhbmoaaGreatDoor
namespace Go.Proofs.YtfkecmlmnhbmoaaGreatDoor
open Go.RowKit

def TwX (r : Nat) (w1 : World) (A B : Nat) (c d : Obj) (e : Ending) (w' : World) : Prop := (∃ b : Bool, e = .returned (.bool b) ∧ (b = true → ¬ isNan r)) ∧ Kept [] w1 w' ∧ w'.heap[A]? = some c ∧ w'.heap[B]? = some d
set_option maxRecDepth 100000 in
set_option maxHeartbeats 2000000 in
theorem fo3 (i g : Int) (r : Nat) (s : ByteArray) (keys : List ByteArray) (kids : F) : FoC 3 i g r s keys kids := by
  intro N ka kc a cap w hn ht hN
  have hfld := hn.fld
  obtain ⟨⟨k1, k2⟩, ⟨i1, i2⟩, ⟨g1, g2⟩, r1, s1⟩ := hn.fld
  have hlk1 : keys.length ≤ 140737488351232 := by have := hn.keys.2.1; omega
  have hlk2 : kids.len ≤ 140737488351232 := by have := hn.kids.2.1; omega
  obtain ⟨w0, hw0⟩ : ∃ w0, w0 = (w.alloc (.cells #[.int .i64 3, .int .i64 i, .int .i64 g, .float .f64 r, .string s, .slice ka keys.length kc, .slice a kids.len cap] 26)).alloc (.cells #[.int .i64 0, .int .i64 0, .int .i64 0, .float .f64 0, .string ⟨#[]⟩, .slice none 0 0, .slice none 0 0] 31) := ⟨_, rfl⟩
  have hK0 : Kept [] w w0 := by rw [hw0]; exact ((Kept.refl [] w).alloc _).alloc _
  have hs0 : w0.heap.size = w.heap.size + 2 := by rw [hw0]; simp
  have hX1 : w0.heap[w.heap.size]? = some (.cells #[.int .i64 3, .int .i64 i, .int .i64 g, .float .f64 r, .string s, .slice ka keys.length kc, .slice a kids.len cap] 26 (0, 0)) := by
    rw [hw0, heap_lt (by simp)]; exact heap_at rfl
  have hX2 : w0.heap[w.heap.size + 1]? = some (.cells #[.int .i64 0, .int .i64 0, .int .i64 0, .float .f64 0, .string ⟨#[]⟩, .slice none 0 0, .slice none 0 0] 31 (0, 0)) := by
    rw [hw0]; exact heap_at (by simp)
  have hS0 : w.heap.size + 1 < w0.heap.size := by omega
  have HN := Lib.hid hn; clear hn hs0
  go_enter Tryz.func24, Tryz.ntmps24
  go_wp2_with fail
  rw [← hw0]
  refine (onlyw 3 i g r s ka keys.length kc a kids.len cap w0 hfld hlk1 hlk2).mono ?_
  rintro e w1 ⟨⟨b, rfl, hb⟩, hK1⟩
  have hK2 : Kept [] w w1 := Kept.trans hK0 hK1 (by simp) (by simp)
  have hX1' := (hK1.block w.heap.size (by omega) (by simp)).trans hX1
  have hX2' := (hK1.block (w.heap.size + 1) (by omega) (by simp)).trans hX2
  have hS1 : w.heap.size + 1 < w1.heap.size := Nat.lt_of_lt_of_le hS0 hK1.size
  have hS2 : w.heap.size < w1.heap.size := by omega
  obtain ⟨⟨c0, c1, c2, c3, c4, c5, c6⟩, _⟩ := seven hX1'
  obtain ⟨⟨e0, e1, e2, e3, e4, e5, e6⟩, p0, p1, p2, p3, p4, p5, p6⟩ := seven hX2'
  have hoff := cell_set_off
  have r0 := fun (X : World) (i j : Nat) (u : Value) => cell_set_other (show w.heap.size + 1 ≠ w.heap.size by omega) i j X u
  clear hw0 hK0 hX1 hX2 hS0 hK1
  have HX1 := Lib.hid hX1'; have HX2 := Lib.hid hX2'; clear hX1' hX2'
  cases b
  case' false =>
    go_wp2_with fail
    refine bodyPost_ret (v := .tuple #[.agg #[.int .i64 0, .int .i64 0, .int .i64 0, .float .f64 0, .string ⟨#[]⟩, .slice none 0 0, .slice none 0 0], .bool false]) (by simp [results, Tryz.results24, go_sem, hoff, e0, e1, e2, e3, e4, e5, e6]) rfl ?_
    exact foNo (kept7 hK2 (.inl (by omega)) _ _ _ _ _ _ _)
  have ho := hb rfl
  clear hb
  have HO := Lib.hid ho; clear ho
  have ht1 := ht.kept hK2 hN (by simp)
  have hT : ∀ W : World, (∃ k, W = w1.drewN k) → Calls Tryz.prog 42 #[.float .f64 r] W (TwX r w1 w.heap.size (w.heap.size + 1) (.cells #[.int .i64 3, .int .i64 i, .int .i64 g, .float .f64 r, .string s, .slice ka keys.length kc, .slice a kids.len cap] 26 (0, 0)) (.cells #[.int .i64 0, .int .i64 0, .int .i64 0, .float .f64 0, .string ⟨#[]⟩, .slice none 0 0, .slice none 0 0] 31 (0, 0))) := fun W ⟨k, h⟩ => by
    subst h
    have hNw : N ≤ w1.heap.size := Nat.le_trans hN hK2.size
    refine (twelve r N _ r1 (ht1.kept ((Kept.refl [] w1).drewN k) hNw (by simp)) (by rw [Tryz.drewN_heap]; exact hNw)).mono ?_
    rintro e w' ⟨hb, hk⟩
    have hk' : Kept [] w1 w' := Kept.trans ((Kept.refl [] w1).drewN k) hk (by simp) (by simp)
    exact ⟨hb, hk', (hk'.block _ hS2 (by simp)).trans HX1.out, (hk'.block _ hS1 (by simp)).trans HX2.out⟩
  have HT := Lib.hid hT; clear hT ht1
  go_wp2_with fail
  go_region_with ((go_at_call 42; refine (HT.out _ ⟨_, rfl⟩).mono ?_; rintro e w3 ⟨⟨b, rfl, hb⟩, hK3, hA, hB⟩; obtain ⟨⟨d0, d1, d2, d3, d4, d5, d6⟩, _⟩ := seven hA; obtain ⟨⟨f0, f1, f2, f3, f4, f5, f6⟩, q0, q1, q2, q3, q4, q5, q6⟩ := seven hB))
  all_goals go_wp2_with fail
  all_goals have hK4 := Kept.trans (Z := []) hK2 hK3 (by simp) (by simp)
  all_goals refine bodyPost_ret (v := .tuple #[.agg #[.int .i64 3, .int .i64 0, .int .i64 0, .float .f64 r, .string ⟨#[]⟩, .slice none 0 0, .slice none 0 0], .bool b]) (by simp [results, Tryz.results24, go_sem, hoff, f0, f1, f2, f3, f4, f5, f6]) rfl ?_
  all_goals exact foLeaf (by repeat (first | with_reducible exact hK4 | with_reducible refine Kept.drew ?_ | with_reducible refine Kept.drewN ?_ _ | with_reducible refine Kept.setCell ?_ (.inl (by show w.heap.size ≤ w.heap.size + 1; omega)) _ | with_reducible refine Kept.alloc ?_ _)) (⟨⟨by omega, by omega⟩, ⟨by omega, by omega⟩, ⟨by omega, by omega⟩, r1, Nat.zero_le _⟩) (fun h => ⟨⟨HO.out, by omega, by omega, by omega, fun _ => hb h, by omega, by omega⟩, onlyNil HO.out (by decide)⟩) (by decide)
end Go.Proofs.YtfkecmlmnhbmoaaGreatDoor
namespace Go.Proofs.YtfkecmlmnhbmoaaGreatDoor
open Go.RowKit

set_option maxRecDepth 100000 in
set_option maxHeartbeats 2000000 in
theorem fo6 (i g : Int) (r : Nat) (s : ByteArray) (keys : List ByteArray) (kids : F) : FoC 6 i g r s keys kids := by
  intro N ka kc a cap w hn ht hN
  have hfld := hn.fld
  obtain ⟨⟨k1, k2⟩, ⟨i1, i2⟩, ⟨g1, g2⟩, r1, s1⟩ := hn.fld
  have hlk1 : keys.length ≤ 140737488351232 := by have := hn.keys.2.1; omega
  have hlk2 : kids.len ≤ 140737488351232 := by have := hn.kids.2.1; omega
  obtain ⟨w0, hw0⟩ : ∃ w0, w0 = (w.alloc (.cells #[.int .i64 6, .int .i64 i, .int .i64 g, .float .f64 r, .string s, .slice ka keys.length kc, .slice a kids.len cap] 26)).alloc (.cells #[.int .i64 0, .int .i64 0, .int .i64 0, .float .f64 0, .string ⟨#[]⟩, .slice none 0 0, .slice none 0 0] 31) := ⟨_, rfl⟩
  have hK0 : Kept [] w w0 := by rw [hw0]; exact ((Kept.refl [] w).alloc _).alloc _
  have hs0 : w0.heap.size = w.heap.size + 2 := by rw [hw0]; simp
  have hX1 : w0.heap[w.heap.size]? = some (.cells #[.int .i64 6, .int .i64 i, .int .i64 g, .float .f64 r, .string s, .slice ka keys.length kc, .slice a kids.len cap] 26 (0, 0)) := by
    rw [hw0, heap_lt (by simp)]; exact heap_at rfl
  have hX2 : w0.heap[w.heap.size + 1]? = some (.cells #[.int .i64 0, .int .i64 0, .int .i64 0, .float .f64 0, .string ⟨#[]⟩, .slice none 0 0, .slice none 0 0] 31 (0, 0)) := by
    rw [hw0]; exact heap_at (by simp)
  have hS0 : w.heap.size + 1 < w0.heap.size := by omega
  have HN := Lib.hid hn; clear hn hs0
  go_enter Tryz.func24, Tryz.ntmps24
  go_wp2_with fail
  rw [← hw0]
  refine (onlyw 6 i g r s ka keys.length kc a kids.len cap w0 hfld hlk1 hlk2).mono ?_
  rintro e w1 ⟨⟨b, rfl, hb⟩, hK1⟩
  have hK2 : Kept [] w w1 := Kept.trans hK0 hK1 (by simp) (by simp)
  have hX1' := (hK1.block w.heap.size (by omega) (by simp)).trans hX1
  have hX2' := (hK1.block (w.heap.size + 1) (by omega) (by simp)).trans hX2
  have hS1 : w.heap.size + 1 < w1.heap.size := Nat.lt_of_lt_of_le hS0 hK1.size
  have hS2 : w.heap.size < w1.heap.size := by omega
  obtain ⟨⟨c0, c1, c2, c3, c4, c5, c6⟩, _⟩ := seven hX1'
  obtain ⟨⟨e0, e1, e2, e3, e4, e5, e6⟩, p0, p1, p2, p3, p4, p5, p6⟩ := seven hX2'
  have hoff := cell_set_off
  have r0 := fun (X : World) (i j : Nat) (u : Value) => cell_set_other (show w.heap.size + 1 ≠ w.heap.size by omega) i j X u
  clear hw0 hK0 hX1 hX2 hS0 hK1
  have HX1 := Lib.hid hX1'; have HX2 := Lib.hid hX2'; clear hX1' hX2'
  cases b
  case' false =>
    go_wp2_with fail
    refine bodyPost_ret (v := .tuple #[.agg #[.int .i64 0, .int .i64 0, .int .i64 0, .float .f64 0, .string ⟨#[]⟩, .slice none 0 0, .slice none 0 0], .bool false]) (by simp [results, Tryz.results24, go_sem, hoff, e0, e1, e2, e3, e4, e5, e6]) rfl ?_
    exact foNo (kept7 hK2 (.inl (by omega)) _ _ _ _ _ _ _)
  have ho := hb rfl
  clear hb
  have HO := Lib.hid ho; clear ho
  have hs9 : s.size ≤ 140737488355000 := by omega
  go_wp2_with fail
  go_region_with ((go_at_call 45; refine (nameab s _ hs9).mono ?_; rintro e w3 ⟨⟨b, rfl⟩, rfl⟩))
  all_goals go_wp2_with fail
  all_goals refine bodyPost_ret (v := .tuple #[.agg #[.int .i64 5, .int .i64 0, .int .i64 0, .float .f64 0, .string s, .slice none 0 0, .slice none 0 0], .bool b]) (by simp [results, Tryz.results24, go_sem, hoff, e0, e1, e2, e3, e4, e5, e6]) rfl ?_
  all_goals exact foLeaf (by repeat (first | with_reducible exact hK2 | with_reducible refine Kept.drew ?_ | with_reducible refine Kept.drewN ?_ _ | with_reducible refine Kept.setCell ?_ (.inl (by show w.heap.size ≤ w.heap.size + 1; omega)) _ | with_reducible refine Kept.alloc ?_ _)) (⟨⟨by omega, by omega⟩, ⟨by omega, by omega⟩, ⟨by omega, by omega⟩, by omega, s1⟩) (fun h => ⟨⟨HO.out, by omega, by omega, by omega, by omega, by omega, by omega⟩, onlyNil HO.out (by decide)⟩) (by decide)
end Go.Proofs.YtfkecmlmnhbmoaaGreatDoor
namespace Go.Proofs.YtfkecmlmnhbmoaaGreatDoor
open Go.RowKit

set_option maxRecDepth 100000 in
set_option maxHeartbeats 2000000 in
theorem fo9 (i g : Int) (r : Nat) (s : ByteArray) (keys : List ByteArray) (kids : F) : FoC 9 i g r s keys kids := by
  intro N ka kc a cap w hn ht hN
  have hfld := hn.fld
  obtain ⟨⟨k1, k2⟩, ⟨i1, i2⟩, ⟨g1, g2⟩, r1, s1⟩ := hn.fld
  have hlk1 : keys.length ≤ 140737488351232 := by have := hn.keys.2.1; omega
  have hlk2 : kids.len ≤ 140737488351232 := by have := hn.kids.2.1; omega
  obtain ⟨w0, hw0⟩ : ∃ w0, w0 = (w.alloc (.cells #[.int .i64 9, .int .i64 i, .int .i64 g, .float .f64 r, .string s, .slice ka keys.length kc, .slice a kids.len cap] 26)).alloc (.cells #[.int .i64 0, .int .i64 0, .int .i64 0, .float .f64 0, .string ⟨#[]⟩, .slice none 0 0, .slice none 0 0] 31) := ⟨_, rfl⟩
  have hK0 : Kept [] w w0 := by rw [hw0]; exact ((Kept.refl [] w).alloc _).alloc _
  have hs0 : w0.heap.size = w.heap.size + 2 := by rw [hw0]; simp
  have hX1 : w0.heap[w.heap.size]? = some (.cells #[.int .i64 9, .int .i64 i, .int .i64 g, .float .f64 r, .string s, .slice ka keys.length kc, .slice a kids.len cap] 26 (0, 0)) := by
    rw [hw0, heap_lt (by simp)]; exact heap_at rfl
  have hX2 : w0.heap[w.heap.size + 1]? = some (.cells #[.int .i64 0, .int .i64 0, .int .i64 0, .float .f64 0, .string ⟨#[]⟩, .slice none 0 0, .slice none 0 0] 31 (0, 0)) := by
    rw [hw0]; exact heap_at (by simp)
  have hS0 : w.heap.size + 1 < w0.heap.size := by omega
  have HN := Lib.hid hn; clear hn hs0
  go_enter Tryz.func24, Tryz.ntmps24
  go_wp2_with fail
  rw [← hw0]
  refine (onlyw 9 i g r s ka keys.length kc a kids.len cap w0 hfld hlk1 hlk2).mono ?_
  rintro e w1 ⟨⟨b, rfl, hb⟩, hK1⟩
  have hK2 : Kept [] w w1 := Kept.trans hK0 hK1 (by simp) (by simp)
  have hX1' := (hK1.block w.heap.size (by omega) (by simp)).trans hX1
  have hX2' := (hK1.block (w.heap.size + 1) (by omega) (by simp)).trans hX2
  have hS1 : w.heap.size + 1 < w1.heap.size := Nat.lt_of_lt_of_le hS0 hK1.size
  have hS2 : w.heap.size < w1.heap.size := by omega
  obtain ⟨⟨c0, c1, c2, c3, c4, c5, c6⟩, _⟩ := seven hX1'
  obtain ⟨⟨e0, e1, e2, e3, e4, e5, e6⟩, p0, p1, p2, p3, p4, p5, p6⟩ := seven hX2'
  have hoff := cell_set_off
  have r0 := fun (X : World) (i j : Nat) (u : Value) => cell_set_other (show w.heap.size + 1 ≠ w.heap.size by omega) i j X u
  clear hw0 hK0 hX1 hX2 hS0 hK1
  have HX1 := Lib.hid hX1'; have HX2 := Lib.hid hX2'; clear hX1' hX2'
  cases b
  case' false =>
    go_wp2_with fail
    refine bodyPost_ret (v := .tuple #[.agg #[.int .i64 0, .int .i64 0, .int .i64 0, .float .f64 0, .string ⟨#[]⟩, .slice none 0 0, .slice none 0 0], .bool false]) (by simp [results, Tryz.results24, go_sem, hoff, e0, e1, e2, e3, e4, e5, e6]) rfl ?_
    exact foNo (kept7 hK2 (.inl (by omega)) _ _ _ _ _ _ _)
  have ho := hb rfl
  clear hb
  have HO := Lib.hid ho; clear ho
  have hcase : (¬ 0 < i) ∨ (0 < i ∧ ¬ i < 2147483648) ∨ (0 < i ∧ i < 2147483648 ∧ ¬ 0 ≤ g) ∨ (0 < i ∧ i < 2147483648 ∧ 0 ≤ g) := by omega
  rcases hcase with h1 | ⟨h1, h2⟩ | ⟨h1, h2, h3⟩ | ⟨h1, h2, h3⟩
  · have z1 : decide (0 < i) = false := by simp; omega
    go_wp2_with fail
    go_region
    go_wp2_with fail
    refine bodyPost_ret (v := .tuple #[.agg #[.int .i64 8, .int .i64 i, .int .i64 g, .float .f64 0, .string ⟨#[]⟩, .slice none 0 0, .slice none 0 0], .bool false]) (by simp [results, Tryz.results24, go_sem, hoff, e0, e1, e2, e3, e4, e5, e6]) rfl ?_
    exact foLeaf (by repeat (first | with_reducible exact hK2 | with_reducible refine Kept.drew ?_ | with_reducible refine Kept.drewN ?_ _ | with_reducible refine Kept.setCell ?_ (.inl (by show w.heap.size ≤ w.heap.size + 1; omega)) _ | with_reducible refine Kept.alloc ?_ _)) (⟨⟨by omega, by omega⟩, ⟨i1, i2⟩, ⟨g1, g2⟩, by omega, Nat.zero_le _⟩) (fun _ => ⟨⟨HO.out, by omega, by omega, by omega, by omega, by omega, by omega⟩, onlyNil HO.out (by decide)⟩) (by decide)
  · have z1 : decide (0 < i) = true := by simp; omega
    have z2 : decide (i < 2147483648) = false := by simp; omega
    go_wp2_with fail
    go_region
    go_wp2_with fail
    refine bodyPost_ret (v := .tuple #[.agg #[.int .i64 8, .int .i64 i, .int .i64 g, .float .f64 0, .string ⟨#[]⟩, .slice none 0 0, .slice none 0 0], .bool false]) (by simp [results, Tryz.results24, go_sem, hoff, e0, e1, e2, e3, e4, e5, e6]) rfl ?_
    exact foLeaf (by repeat (first | with_reducible exact hK2 | with_reducible refine Kept.drew ?_ | with_reducible refine Kept.drewN ?_ _ | with_reducible refine Kept.setCell ?_ (.inl (by show w.heap.size ≤ w.heap.size + 1; omega)) _ | with_reducible refine Kept.alloc ?_ _)) (⟨⟨by omega, by omega⟩, ⟨i1, i2⟩, ⟨g1, g2⟩, by omega, Nat.zero_le _⟩) (fun _ => ⟨⟨HO.out, by omega, by omega, by omega, by omega, by omega, by omega⟩, onlyNil HO.out (by decide)⟩) (by decide)
  · have z1 : decide (0 < i) = true := by simp; omega
    have z2 : decide (i < 2147483648) = true := by simp; omega
    have z3 : decide (0 ≤ g) = false := by simp; omega
    go_wp2_with fail
    go_region
    go_wp2_with fail
    refine bodyPost_ret (v := .tuple #[.agg #[.int .i64 8, .int .i64 i, .int .i64 g, .float .f64 0, .string ⟨#[]⟩, .slice none 0 0, .slice none 0 0], .bool false]) (by simp [results, Tryz.results24, go_sem, hoff, e0, e1, e2, e3, e4, e5, e6]) rfl ?_
    exact foLeaf (by repeat (first | with_reducible exact hK2 | with_reducible refine Kept.drew ?_ | with_reducible refine Kept.drewN ?_ _ | with_reducible refine Kept.setCell ?_ (.inl (by show w.heap.size ≤ w.heap.size + 1; omega)) _ | with_reducible refine Kept.alloc ?_ _)) (⟨⟨by omega, by omega⟩, ⟨i1, i2⟩, ⟨g1, g2⟩, by omega, Nat.zero_le _⟩) (fun _ => ⟨⟨HO.out, by omega, by omega, by omega, by omega, by omega, by omega⟩, onlyNil HO.out (by decide)⟩) (by decide)
  · have z1 : decide (0 < i) = true := by simp; omega
    have z2 : decide (i < 2147483648) = true := by simp; omega
    have z3 : decide (0 ≤ g) = true := by simp; omega
    go_wp2_with fail
    go_region
    go_wp2_with fail
    refine bodyPost_ret (v := .tuple #[.agg #[.int .i64 8, .int .i64 i, .int .i64 g, .float .f64 0, .string ⟨#[]⟩, .slice none 0 0, .slice none 0 0], .bool (decide (g ≤ 65535))]) (by simp [results, Tryz.results24, go_sem, hoff, e0, e1, e2, e3, e4, e5, e6]) rfl ?_
    exact foLeaf (by repeat (first | with_reducible exact hK2 | with_reducible refine Kept.drew ?_ | with_reducible refine Kept.drewN ?_ _ | with_reducible refine Kept.setCell ?_ (.inl (by show w.heap.size ≤ w.heap.size + 1; omega)) _ | with_reducible refine Kept.alloc ?_ _)) (⟨⟨by omega, by omega⟩, ⟨i1, i2⟩, ⟨g1, g2⟩, by omega, Nat.zero_le _⟩) (fun _ => ⟨⟨HO.out, by omega, by omega, by omega, by omega, by omega, by omega⟩, onlyNil HO.out (by decide)⟩) (by decide)
end Go.Proofs.YtfkecmlmnhbmoaaGreatDoor
namespace Go.Proofs.YtfkecmlmnhbmoaaGreatDoor
open Go.RowKit
set_option maxRecDepth 100000 in
set_option maxHeartbeats 3000000 in
theorem foX (k : Int) (hk : k < 0 ∨ 9 < k) (i g : Int) (r : Nat) (s : ByteArray) (keys : List ByteArray) (kids : F) : FoC k i g r s keys kids := by
  intro N ka kc a cap w hn ht hN
  have hfld := hn.fld
  obtain ⟨⟨k1, k2⟩, ⟨i1, i2⟩, ⟨g1, g2⟩, r1, s1⟩ := hn.fld
  have hlk1 : keys.length ≤ 140737488351232 := by have := hn.keys.2.1; omega
  have hlk2 : kids.len ≤ 140737488351232 := by have := hn.kids.2.1; omega
  obtain ⟨w0, hw0⟩ : ∃ w0, w0 = (w.alloc (.cells #[.int .i64 k, .int .i64 i, .int .i64 g, .float .f64 r, .string s, .slice ka keys.length kc, .slice a kids.len cap] 26)).alloc (.cells #[.int .i64 0, .int .i64 0, .int .i64 0, .float .f64 0, .string ⟨#[]⟩, .slice none 0 0, .slice none 0 0] 31) := ⟨_, rfl⟩
  have hK0 : Kept [] w w0 := by rw [hw0]; exact ((Kept.refl [] w).alloc _).alloc _
  have hs0 : w0.heap.size = w.heap.size + 2 := by rw [hw0]; simp
  have hX1 : w0.heap[w.heap.size]? = some (.cells #[.int .i64 k, .int .i64 i, .int .i64 g, .float .f64 r, .string s, .slice ka keys.length kc, .slice a kids.len cap] 26 (0, 0)) := by
    rw [hw0, heap_lt (by simp)]; exact heap_at rfl
  have hX2 : w0.heap[w.heap.size + 1]? = some (.cells #[.int .i64 0, .int .i64 0, .int .i64 0, .float .f64 0, .string ⟨#[]⟩, .slice none 0 0, .slice none 0 0] 31 (0, 0)) := by
    rw [hw0]; exact heap_at (by simp)
  have hS0 : w.heap.size + 1 < w0.heap.size := by omega
  have HN := Lib.hid hn; clear hn hs0
  go_enter Tryz.func24, Tryz.ntmps24
  go_wp2_with fail
  rw [← hw0]
  refine (onlyw k i g r s ka keys.length kc a kids.len cap w0 hfld hlk1 hlk2).mono ?_
  rintro e w1 ⟨⟨b, rfl, hb⟩, hK1⟩
  have hK2 : Kept [] w w1 := Kept.trans hK0 hK1 (by simp) (by simp)
  have hX1' := (hK1.block w.heap.size (by omega) (by simp)).trans hX1
  have hX2' := (hK1.block (w.heap.size + 1) (by omega) (by simp)).trans hX2
  have hS1 : w.heap.size + 1 < w1.heap.size := Nat.lt_of_lt_of_le hS0 hK1.size
  have hS2 : w.heap.size < w1.heap.size := by omega
  obtain ⟨⟨c0, c1, c2, c3, c4, c5, c6⟩, _⟩ := seven hX1'
  obtain ⟨⟨e0, e1, e2, e3, e4, e5, e6⟩, p0, p1, p2, p3, p4, p5, p6⟩ := seven hX2'
  have hoff := cell_set_off
  have r0 := fun (X : World) (i j : Nat) (u : Value) => cell_set_other (show w.heap.size + 1 ≠ w.heap.size by omega) i j X u
  clear hw0 hK0 hX1 hX2 hS0 hK1
  have HX1 := Lib.hid hX1'; have HX2 := Lib.hid hX2'; clear hX1' hX2'
  cases b
  case' false =>
    go_wp2_with fail
    refine bodyPost_ret (v := .tuple #[.agg #[.int .i64 0, .int .i64 0, .int .i64 0, .float .f64 0, .string ⟨#[]⟩, .slice none 0 0, .slice none 0 0], .bool false]) (by simp [results, Tryz.results24, go_sem, hoff, e0, e1, e2, e3, e4, e5, e6]) rfl ?_
    exact foNo (kept7 hK2 (.inl (by omega)) _ _ _ _ _ _ _)
  have ho := hb rfl
  clear hb
  have z0 : (k == 0) = false := beq_eq_false_iff_ne.2 (by omega)
  have z1 : (k == 1) = false := beq_eq_false_iff_ne.2 (by omega)
  have z2 : (k == 2) = false := beq_eq_false_iff_ne.2 (by omega)
  have z3 : (k == 3) = false := beq_eq_false_iff_ne.2 (by omega)
  have z4 : (k == 4) = false := beq_eq_false_iff_ne.2 (by omega)
  have z5 : (k == 5) = false := beq_eq_false_iff_ne.2 (by omega)
  have z6 : (k == 6) = false := beq_eq_false_iff_ne.2 (by omega)
  have z7 : (k == 7) = false := beq_eq_false_iff_ne.2 (by omega)
  have z8 : (k == 8) = false := beq_eq_false_iff_ne.2 (by omega)
  have z9 : (k == 9) = false := beq_eq_false_iff_ne.2 (by omega)
  clear ho
  go_wp2_with fail
  refine bodyPost_ret (v := .tuple #[.agg #[.int .i64 0, .int .i64 0, .int .i64 0, .float .f64 0, .string ⟨#[]⟩, .slice none 0 0, .slice none 0 0], .bool false]) (by simp [results, Tryz.results24, go_sem, hoff, e0, e1, e2, e3, e4, e5, e6]) rfl ?_
  exact foNo (kept7 hK2 (.inl (by omega)) _ _ _ _ _ _ _)
end Go.Proofs.YtfkecmlmnhbmoaaGreatDoor
namespace Go.Proofs.YtfkecmlmnhbmoaaGreatDoor
open Go.RowKit
theorem foKids {N : Nat} {w w1 w3 : World} {k i g kk k' i' g' : Int} {r r' : Nat} {s s' : ByteArray} {keys keys0 : List ByteArray} {kids : F} {ka0 ka' a' : Option Addr} {kc0 nk' kc' nd' cap' : Nat} {b : Bool} (hN : N ≤ w.heap.size) (hK2 : Kept [] w w1) (hS1 : w.heap.size + 1 < w1.heap.size) (hK3 : Kept [] w1 w3)
    (hb : b = true → Good kids ∧ k' = kk ∧ i' = 0 ∧ g' = 0 ∧ r' = 0 ∧ s' = ⟨#[]⟩ ∧ ka' = ka0 ∧ nk' = keys0.length ∧ kc' = kc0 ∧ ∃ kids', nd' = kids'.len ∧ Kids (Fr N w1.heap.size w3.heap.size) w3 a' cap' kids' ∧ Cv kids kids') (hbf : b = false → k' = 0 ∧ i' = 0 ∧ g' = 0 ∧ r' = 0 ∧ s' = ⟨#[]⟩ ∧ ka' = none ∧ nk' = 0 ∧ kc' = 0 ∧ a' = none ∧ nd' = 0 ∧ cap' = 0)
    (hg : b = true → Good1 k i g r s keys kids) (hkk : (k = 0 ↔ kk = 0) ∧ I64 kk) (hkeys : KeysIn (Lt N) w1 ka0 kc0 keys0 ∧ (k = 8 → keys0 = keys)) :
    FoE N w k i g r s keys kids (.returned (.tuple #[.agg #[.int .i64 k', .int .i64 i', .int .i64 g', .float .f64 r', .string s', .slice ka' nk' kc', .slice a' nd' cap'], .bool b]))
      (((((((w3.setCell ⟨w.heap.size + 1, 0, none⟩ (.int .i64 k')).setCell ⟨w.heap.size + 1, 1, none⟩ (.int .i64 i')).setCell ⟨w.heap.size + 1, 2, none⟩ (.int .i64 g')).setCell ⟨w.heap.size + 1, 3, none⟩ (.float .f64 r')).setCell ⟨w.heap.size + 1, 4, none⟩ (.string s')).setCell ⟨w.heap.size + 1, 5, none⟩ (.slice ka' nk' kc')).setCell ⟨w.heap.size + 1, 6, none⟩ (.slice a' nd' cap')) := by
  have hK4 : Kept [] w w3 := Kept.trans hK2 hK3 (by simp) (by simp)
  refine ⟨kept7 hK4 (.inl (by omega)) _ _ _ _ _ _ _, k', i', g', r', s', ka', nk', kc', a', nd', cap', b, rfl, fun h => ?_, fun h => by
    obtain ⟨rfl, rfl, rfl, rfl, rfl, rfl, rfl, rfl, rfl, rfl, rfl⟩ := hbf h
    exact ⟨[], .nil, rfl, rfl, leafNode ⟨⟨by decide, by decide⟩, ⟨by decide, by decide⟩, ⟨by decide, by decide⟩, by decide, by decide⟩⟩⟩
  obtain ⟨h1, rfl, rfl, rfl, rfl, rfl, rfl, rfl, rfl, kids', rfl, h2, h3⟩ := hb h
  have hKw := kept7 (b := w.heap.size + 1) (Kept.refl [w.heap.size + 1] w3) (.inr (by simp)) (.int .i64 k') (.int .i64 0) (.int .i64 0) (.float .f64 0) (.string ⟨#[]⟩) (.slice ka' keys0.length kc') (.slice a' kids'.len cap')
  have hN1 : N ≤ w1.heap.size := Nat.le_trans hN hK2.size
  refine ⟨hg h, h1, keys0, kids', rfl, rfl, ⟨⟨hkk.2, ⟨by omega, by omega⟩, ⟨by omega, by omega⟩, by omega, Nat.zero_le _⟩, ?_, ?_⟩, ⟨hkk.1, hkeys.2⟩, h3⟩
  · refine ((hkeys.1.kept hK3 (ltk hN1 (by simp))).kept hKw (ltk (Nat.le_trans hN hK4.size) (by simp; omega))).mono fun b hb => .inl hb
  · refine (h2.kept hKw fun b hb => ⟨?_, fun hm => ?_⟩).mono fun b hb => ?_
    · rcases hb with h | ⟨_, h⟩
      · have := hK4.size; omega
      · exact h
    · simp at hm; subst hm
      rcases hb with h | ⟨h, _⟩ <;> omega
    · rcases hb with h | ⟨h, h2⟩
      · exact .inl h
      · exact .inr ⟨by omega, by simpa using h2⟩
set_option maxRecDepth 100000 in
set_option maxHeartbeats 3000000 in
theorem fo7 (i g : Int) (r : Nat) (s : ByteArray) (keys : List ByteArray) (kids : F) (ih : AllN FoC kids) : FoC 7 i g r s keys kids := by
  intro N ka kc a cap w hn ht hN
  have hfld := hn.fld
  obtain ⟨⟨k1, k2⟩, ⟨i1, i2⟩, ⟨g1, g2⟩, r1, s1⟩ := hn.fld
  have hlk1 : keys.length ≤ 140737488351232 := by have := hn.keys.2.1; omega
  have hlk2 : kids.len ≤ 140737488351232 := by have := hn.kids.2.1; omega
  obtain ⟨w0, hw0⟩ : ∃ w0, w0 = (w.alloc (.cells #[.int .i64 7, .int .i64 i, .int .i64 g, .float .f64 r, .string s, .slice ka keys.length kc, .slice a kids.len cap] 26)).alloc (.cells #[.int .i64 0, .int .i64 0, .int .i64 0, .float .f64 0, .string ⟨#[]⟩, .slice none 0 0, .slice none 0 0] 31) := ⟨_, rfl⟩
  have hK0 : Kept [] w w0 := by rw [hw0]; exact ((Kept.refl [] w).alloc _).alloc _
  have hs0 : w0.heap.size = w.heap.size + 2 := by rw [hw0]; simp
  have hX1 : w0.heap[w.heap.size]? = some (.cells #[.int .i64 7, .int .i64 i, .int .i64 g, .float .f64 r, .string s, .slice ka keys.length kc, .slice a kids.len cap] 26 (0, 0)) := by
    rw [hw0, heap_lt (by simp)]; exact heap_at rfl
  have hX2 : w0.heap[w.heap.size + 1]? = some (.cells #[.int .i64 0, .int .i64 0, .int .i64 0, .float .f64 0, .string ⟨#[]⟩, .slice none 0 0, .slice none 0 0] 31 (0, 0)) := by
    rw [hw0]; exact heap_at (by simp)
  have hS0 : w.heap.size + 1 < w0.heap.size := by omega
  have HN := Lib.hid hn; clear hn hs0
  go_enter Tryz.func24, Tryz.ntmps24
  go_wp2_with fail
  rw [← hw0]
  refine (onlyw 7 i g r s ka keys.length kc a kids.len cap w0 hfld hlk1 hlk2).mono ?_
  rintro e w1 ⟨⟨b, rfl, hb⟩, hK1⟩
  have hK2 : Kept [] w w1 := Kept.trans hK0 hK1 (by simp) (by simp)
  have hX1' := (hK1.block w.heap.size (by omega) (by simp)).trans hX1
  have hX2' := (hK1.block (w.heap.size + 1) (by omega) (by simp)).trans hX2
  have hS1 : w.heap.size + 1 < w1.heap.size := Nat.lt_of_lt_of_le hS0 hK1.size
  have hS2 : w.heap.size < w1.heap.size := by omega
  obtain ⟨⟨c0, c1, c2, c3, c4, c5, c6⟩, _⟩ := seven hX1'
  obtain ⟨⟨e0, e1, e2, e3, e4, e5, e6⟩, p0, p1, p2, p3, p4, p5, p6⟩ := seven hX2'
  have hoff := cell_set_off
  have r0 := fun (X : World) (i j : Nat) (u : Value) => cell_set_other (show w.heap.size + 1 ≠ w.heap.size by omega) i j X u
  clear hw0 hK0 hX1 hX2 hS0 hK1
  have HX1 := Lib.hid hX1'; have HX2 := Lib.hid hX2'; clear hX1' hX2'
  cases b
  case' false =>
    go_wp2_with fail
    refine bodyPost_ret (v := .tuple #[.agg #[.int .i64 0, .int .i64 0, .int .i64 0, .float .f64 0, .string ⟨#[]⟩, .slice none 0 0, .slice none 0 0], .bool false]) (by simp [results, Tryz.results24, go_sem, hoff, e0, e1, e2, e3, e4, e5, e6]) rfl ?_
    exact foNo (kept7 hK2 (.inl (by omega)) _ _ _ _ _ _ _)
  have ho := hb rfl
  clear hb
  have HO := Lib.hid ho; have HIH := Lib.hid ih; clear ho ih
  have hNw : N ≤ w1.heap.size := Nat.le_trans hN hK2.size
  have hn1 := HN.out.kept hK2 (ltk hN (by simp))
  have HN1 := Lib.hid hn1; clear hn1
  go_wp2_with fail
  refine (fkids N 6 none 0 0 7 i g r s keys kids ka kc a cap w1 HN1.out (ht.kept hK2 hN (by simp)) hNw HIH.out).mono ?_
  rintro e w3 ⟨hK3, k3, i3, g3, r3, s3, ka3, nk3, kc3, a3, nd3, cap3, b3, rfl, hb3⟩
  have hX2'' := (hK3.block (w.heap.size + 1) hS1 (by simp)).trans HX2.out
  clear c0 c1 c2 c3 c4 c5 c6 e0 e1 e2 e3 e4 e5 e6 p0 p1 p2 p3 p4 p5 p6 r0
  obtain ⟨⟨e0, e1, e2, e3, e4, e5, e6⟩, p0, p1, p2, p3, p4, p5, p6⟩ := seven hX2''
  clear hX2''
  have HB3 := Lib.hid hb3; clear hb3
  go_wp2_with fail
  refine bodyPost_ret (v := .tuple #[.agg #[.int .i64 k3, .int .i64 i3, .int .i64 g3, .float .f64 r3, .string s3, .slice ka3 nk3 kc3, .slice a3 nd3 cap3], .bool b3]) (by simp [results, Tryz.results24, go_sem, hoff, e0, e1, e2, e3, e4, e5, e6]) rfl ?_
  exact foKids (keys0 := []) hN hK2 hS1 hK3 HB3.out.1 HB3.out.2 (fun _ => ⟨HO.out, by omega, by omega, by omega, by omega, by omega, by omega⟩) ⟨by decide, by omega, by omega⟩ ⟨⟨by simp, by simp, fun i hi => by simp at hi⟩, fun h => by omega⟩
end Go.Proofs.YtfkecmlmnhbmoaaGreatDoor
namespace Go.Proofs.YtfkecmlmnhbmoaaGreatDoor
open Go.RowKit


set_option maxRecDepth 100000 in
set_option maxHeartbeats 6000000 in
theorem fo8 (i g : Int) (r : Nat) (s : ByteArray) (keys : List ByteArray) (kids : F) (ih : AllN FoC kids) : FoC 8 i g r s keys kids := by
  intro N ka kc a cap w hn ht hN
  have hfld := hn.fld
  obtain ⟨⟨k1, k2⟩, ⟨i1, i2⟩, ⟨g1, g2⟩, r1, s1⟩ := hn.fld
  have hlk1 : keys.length ≤ 140737488351232 := by have := hn.keys.2.1; omega
  have hlk2 : kids.len ≤ 140737488351232 := by have := hn.kids.2.1; omega
  obtain ⟨w0, hw0⟩ : ∃ w0, w0 = (w.alloc (.cells #[.int .i64 8, .int .i64 i, .int .i64 g, .float .f64 r, .string s, .slice ka keys.length kc, .slice a kids.len cap] 26)).alloc (.cells #[.int .i64 0, .int .i64 0, .int .i64 0, .float .f64 0, .string ⟨#[]⟩, .slice none 0 0, .slice none 0 0] 31) := ⟨_, rfl⟩
  have hK0 : Kept [] w w0 := by rw [hw0]; exact ((Kept.refl [] w).alloc _).alloc _
  have hs0 : w0.heap.size = w.heap.size + 2 := by rw [hw0]; simp
  have hX1 : w0.heap[w.heap.size]? = some (.cells #[.int .i64 8, .int .i64 i, .int .i64 g, .float .f64 r, .string s, .slice ka keys.length kc, .slice a kids.len cap] 26 (0, 0)) := by
    rw [hw0, heap_lt (by simp)]; exact heap_at rfl
  have hX2 : w0.heap[w.heap.size + 1]? = some (.cells #[.int .i64 0, .int .i64 0, .int .i64 0, .float .f64 0, .string ⟨#[]⟩, .slice none 0 0, .slice none 0 0] 31 (0, 0)) := by
    rw [hw0]; exact heap_at (by simp)
  have hS0 : w.heap.size + 1 < w0.heap.size := by omega
  have HN := Lib.hid hn; clear hn hs0
  go_enter Tryz.func24, Tryz.ntmps24
  go_wp2_with fail
  rw [← hw0]
  refine (onlyw 8 i g r s ka keys.length kc a kids.len cap w0 hfld hlk1 hlk2).mono ?_
  rintro e w1 ⟨⟨b, rfl, hb⟩, hK1⟩
  have hK2 : Kept [] w w1 := Kept.trans hK0 hK1 (by simp) (by simp)
  have hX1' := (hK1.block w.heap.size (by omega) (by simp)).trans hX1
  have hX2' := (hK1.block (w.heap.size + 1) (by omega) (by simp)).trans hX2
  have hS1 : w.heap.size + 1 < w1.heap.size := Nat.lt_of_lt_of_le hS0 hK1.size
  have hS2 : w.heap.size < w1.heap.size := by omega
  obtain ⟨⟨c0, c1, c2, c3, c4, c5, c6⟩, _⟩ := seven hX1'
  obtain ⟨⟨e0, e1, e2, e3, e4, e5, e6⟩, p0, p1, p2, p3, p4, p5, p6⟩ := seven hX2'
  have hoff := cell_set_off
  have r0 := fun (X : World) (i j : Nat) (u : Value) => cell_set_other (show w.heap.size + 1 ≠ w.heap.size by omega) i j X u
  clear hw0 hK0 hX1 hX2 hS0 hK1
  have HX1 := Lib.hid hX1'; have HX2 := Lib.hid hX2'; clear hX1' hX2'
  cases b
  case' false =>
    go_wp2_with fail
    refine bodyPost_ret (v := .tuple #[.agg #[.int .i64 0, .int .i64 0, .int .i64 0, .float .f64 0, .string ⟨#[]⟩, .slice none 0 0, .slice none 0 0], .bool false]) (by simp [results, Tryz.results24, go_sem, hoff, e0, e1, e2, e3, e4, e5, e6]) rfl ?_
    exact foNo (kept7 hK2 (.inl (by omega)) _ _ _ _ _ _ _)
  have ho := hb rfl
  clear hb
  have HO := Lib.hid ho; have HIH := Lib.hid ih; clear ho ih
  have hNw : N ≤ w1.heap.size := Nat.le_trans hN hK2.size
  have hn1 := HN.out.kept hK2 (ltk hN (by simp))
  have hks := hn1.keys.2.2
  have HN1 := Lib.hid hn1; have HKS := Lib.hid hks; clear hn1 hks
  by_cases hlen : keys.length = kids.len
  · have zl : ((keys.length : Int) != (kids.len : Int)) = false := by rw [bne_eq_false_iff_eq]; omega
    have HLEN := Lib.hid hlen; clear hlen
    go_wp2_with fail
    go_loop [8, 9, 128] (fun _ _ v => ∃ j : Nat, j ≤ keys.length ∧ v = .int .i64 j ∧ ∀ m (h : m + 1 < keys.length), m + 1 < j → keyGe keys[m] keys[m + 1] = false) (fun _ _ v => keys.length - (intOf v).toNat)
    case atStart => exact ⟨0, by omega, rfl, fun m h hm => by omega⟩
    case round =>
      obtain ⟨j, hj, rfl, hasc⟩ := hrel
      have HASC := Lib.hid hasc; clear hasc
      by_cases hlt : j < keys.length
      · obtain ⟨b, o, rfl, hbN, hc, hsz⟩ := HKS.out j hlt
        have hsz5 : keys[j].size ≤ 140737488355000 := Nat.le_trans hsz (by decide)
        by_cases hj0 : j = 0
        · subst hj0
          simp only [Nat.add_zero] at hc
          go_wp2_with fail
          refine (nameab _ _ hsz5).mono ?_
          rintro e w' ⟨⟨b1, rfl⟩, rfl⟩
          cases b1
          · skip
            go_wp2_with fail
            refine bodyPost_ret (v := .tuple #[.agg #[.int .i64 0, .int .i64 0, .int .i64 0, .float .f64 0, .string ⟨#[]⟩, .slice none 0 0, .slice none 0 0], .bool false]) (by simp [results, Tryz.results24, go_sem, hoff, e0, e1, e2, e3, e4, e5, e6]) rfl ?_
            exact foNo (kept7 hK2 (.inl (by omega)) _ _ _ _ _ _ _)
          · go_wp2_with fail
            refine (signedw _ _ hsz5).mono ?_
            rintro e w' ⟨⟨b2, rfl⟩, rfl⟩
            cases b2
            · go_wp2_with fail
              exact ⟨⟨1, by omega, rfl, fun m h hm => by omega⟩, by simp [intOf]; omega⟩
            · skip
              go_wp2_with fail
              refine bodyPost_ret (v := .tuple #[.agg #[.int .i64 0, .int .i64 0, .int .i64 0, .float .f64 0, .string ⟨#[]⟩, .slice none 0 0, .slice none 0 0], .bool false]) (by simp [results, Tryz.results24, go_sem, hoff, e0, e1, e2, e3, e4, e5, e6]) rfl ?_
              exact foNo (kept7 hK2 (.inl (by omega)) _ _ _ _ _ _ _)
        · obtain ⟨m, rfl⟩ : ∃ m, j = m + 1 := ⟨j - 1, by omega⟩
          obtain ⟨b', o', he, _, hc', _⟩ := HKS.out m (by omega)
          cases he
          cases hge : keyGe keys[m] keys[m + 1]
          · have hb0 : Op.bytesLess keys[m].toList keys[m + 1].toList = true := by unfold keyGe at hge; simpa using hge
            have HGE := Lib.hid hge; clear hge
            go_wp2_with fail
            refine (nameab _ _ hsz5).mono ?_
            rintro e w' ⟨⟨b1, rfl⟩, rfl⟩
            cases b1
            · skip
              go_wp2_with fail
              refine bodyPost_ret (v := .tuple #[.agg #[.int .i64 0, .int .i64 0, .int .i64 0, .float .f64 0, .string ⟨#[]⟩, .slice none 0 0, .slice none 0 0], .bool false]) (by simp [results, Tryz.results24, go_sem, hoff, e0, e1, e2, e3, e4, e5, e6]) rfl ?_
              exact foNo (kept7 hK2 (.inl (by omega)) _ _ _ _ _ _ _)
            · go_wp2_with fail
              refine (signedw _ _ hsz5).mono ?_
              rintro e w' ⟨⟨b2, rfl⟩, rfl⟩
              cases b2
              · go_wp2_with fail
                refine ⟨⟨m + 1 + 1, by omega, by go_num, fun q h hm => ?_⟩, by simp [intOf]; omega⟩
                by_cases hq : q = m
                · subst hq; exact HGE.out
                · exact HASC.out q h (by omega)
              · skip
                go_wp2_with fail
                refine bodyPost_ret (v := .tuple #[.agg #[.int .i64 0, .int .i64 0, .int .i64 0, .float .f64 0, .string ⟨#[]⟩, .slice none 0 0, .slice none 0 0], .bool false]) (by simp [results, Tryz.results24, go_sem, hoff, e0, e1, e2, e3, e4, e5, e6]) rfl ?_
                exact foNo (kept7 hK2 (.inl (by omega)) _ _ _ _ _ _ _)
          · have hb0 : Op.bytesLess keys[m].toList keys[m + 1].toList = false := by unfold keyGe at hge; simpa using hge
            clear hge
            go_wp2_with fail
            refine (nameab _ _ hsz5).mono ?_
            rintro e w' ⟨⟨b1, rfl⟩, rfl⟩
            cases b1
            · skip
              go_wp2_with fail
              refine bodyPost_ret (v := .tuple #[.agg #[.int .i64 0, .int .i64 0, .int .i64 0, .float .f64 0, .string ⟨#[]⟩, .slice none 0 0, .slice none 0 0], .bool false]) (by simp [results, Tryz.results24, go_sem, hoff, e0, e1, e2, e3, e4, e5, e6]) rfl ?_
              exact foNo (kept7 hK2 (.inl (by omega)) _ _ _ _ _ _ _)
            · go_wp2_with fail
              refine (signedw _ _ hsz5).mono ?_
              rintro e w' ⟨⟨b2, rfl⟩, rfl⟩
              cases b2
              · skip
                go_wp2_with fail
                refine bodyPost_ret (v := .tuple #[.agg #[.int .i64 0, .int .i64 0, .int .i64 0, .float .f64 0, .string ⟨#[]⟩, .slice none 0 0, .slice none 0 0], .bool false]) (by simp [results, Tryz.results24, go_sem, hoff, e0, e1, e2, e3, e4, e5, e6]) rfl ?_
                exact foNo (kept7 hK2 (.inl (by omega)) _ _ _ _ _ _ _)
              · skip
                go_wp2_with fail
                refine bodyPost_ret (v := .tuple #[.agg #[.int .i64 0, .int .i64 0, .int .i64 0, .float .f64 0, .string ⟨#[]⟩, .slice none 0 0, .slice none 0 0], .bool false]) (by simp [results, Tryz.results24, go_sem, hoff, e0, e1, e2, e3, e4, e5, e6]) rfl ?_
                exact foNo (kept7 hK2 (.inl (by omega)) _ _ _ _ _ _ _)
      · have hasc2 : ∀ m (h : m + 1 < keys.length), keyGe keys[m] keys[m + 1] = false := fun m h => HASC.out m h (by omega)
        have HA2 := Lib.hid hasc2; clear hasc2
        go_wp2_with fail
        refine (fkids N 7 ka keys.length kc 8 i g r s keys kids ka kc a cap w1 HN1.out (ht.kept hK2 hN (by simp)) hNw HIH.out).mono ?_
        rintro e w3 ⟨hK3, k3, i3, g3, r3, s3, ka3, nk3, kc3, a3, nd3, cap3, b3, rfl, hb3⟩
        have hX2'' := (hK3.block (w.heap.size + 1) hS1 (by simp)).trans HX2.out
        clear c0 c1 c2 c3 c4 c5 c6 e0 e1 e2 e3 e4 e5 e6 p0 p1 p2 p3 p4 p5 p6 r0
        obtain ⟨⟨e0, e1, e2, e3, e4, e5, e6⟩, p0, p1, p2, p3, p4, p5, p6⟩ := seven hX2''
        clear hX2''
        have HB3 := Lib.hid hb3; clear hb3
        go_wp2_with fail
        refine bodyPost_ret (v := .tuple #[.agg #[.int .i64 k3, .int .i64 i3, .int .i64 g3, .float .f64 r3, .string s3, .slice ka3 nk3 kc3, .slice a3 nd3 cap3], .bool b3]) (by simp [results, Tryz.results24, go_sem, hoff, e0, e1, e2, e3, e4, e5, e6]) rfl ?_
        exact foKids (keys0 := keys) hN hK2 hS1 hK3 HB3.out.1 HB3.out.2 (fun _ => ⟨HO.out, by omega, by omega, by omega, by omega, fun _ => HLEN.out, fun _ => HA2.out⟩) ⟨by decide, by omega, by omega⟩ ⟨HN1.out.keys, fun _ => rfl⟩
  · have zl : ((keys.length : Int) != (kids.len : Int)) = true := by rw [bne_iff_ne]; omega
    go_wp2_with fail
    refine bodyPost_ret (v := .tuple #[.agg #[.int .i64 0, .int .i64 0, .int .i64 0, .float .f64 0, .string ⟨#[]⟩, .slice none 0 0, .slice none 0 0], .bool false]) (by simp [results, Tryz.results24, go_sem, hoff, e0, e1, e2, e3, e4, e5, e6]) rfl ?_
    exact foNo (kept7 hK2 (.inl (by omega)) _ _ _ _ _ _ _)
end Go.Proofs.YtfkecmlmnhbmoaaGreatDoor
namespace Go.Proofs.YtfkecmlmnhbmoaaGreatDoor
open Go.RowKit
theorem fo_step (k i g : Int) (r : Nat) (s : ByteArray) (keys : List ByteArray) (kids : F) (ih : AllN FoC kids) : FoC k i g r s keys kids := by
  have h : k = 0 ∨ k = 1 ∨ k = 2 ∨ k = 3 ∨ k = 4 ∨ k = 5 ∨ k = 6 ∨ k = 7 ∨ k = 8 ∨ k = 9 ∨ (k < 0 ∨ 9 < k) := by omega
  rcases h with rfl | rfl | rfl | rfl | rfl | rfl | rfl | rfl | rfl | rfl | h
  · exact fo0 i g r s keys kids
  · exact fo1 i g r s keys kids
  · exact fo2 i g r s keys kids
  · exact fo3 i g r s keys kids
  · exact fo4 i g r s keys kids
  · exact fo5 i g r s keys kids
  · exact fo6 i g r s keys kids
  · exact fo7 i g r s keys kids ih
  · exact fo8 i g r s keys kids ih
  · exact fo9 i g r s keys kids
  · exact foX k h i g r s keys kids
theorem fo_node (k i g : Int) (r : Nat) (s : ByteArray) (keys : List ByteArray) (kids : F) : FoC k i g r s keys kids := AllN.node fo_step k i g r s keys kids
theorem foStore {N : Nat} {w w1 w3 : World} {k i g k' i' g' : Int} {r r' : Nat} {s s' : ByteArray} {keys : List ByteArray} {kids : F} {ka' a' : Option Addr} {nk' kc' nd' cap' : Nat} {b : Bool} (hN : N ≤ w.heap.size) (hK2 : Kept [] w w1) (hS1 : w.heap.size + 1 < w1.heap.size) (hK3 : Kept [] w1 w3)
    (hb : b = true → Good1 k i g r s keys kids ∧ Good kids ∧ ∃ keys' kids', nk' = keys'.length ∧ nd' = kids'.len ∧ Node (Fr N w1.heap.size w3.heap.size) w3 k' i' g' r' s' keys' kids' ka' kc' a' cap' ∧ Cv1 k keys kids k' keys' kids') (hbf : b = false → ∃ keys' kids', nk' = keys'.length ∧ nd' = kids'.len ∧ Node (Fr N w1.heap.size w3.heap.size) w3 k' i' g' r' s' keys' kids' ka' kc' a' cap') :
    FoE N w k i g r s keys kids (.returned (.tuple #[.agg #[.int .i64 k', .int .i64 i', .int .i64 g', .float .f64 r', .string s', .slice ka' nk' kc', .slice a' nd' cap'], .bool b]))
      (((((((w3.setCell ⟨w.heap.size + 1, 0, none⟩ (.int .i64 k')).setCell ⟨w.heap.size + 1, 1, none⟩ (.int .i64 i')).setCell ⟨w.heap.size + 1, 2, none⟩ (.int .i64 g')).setCell ⟨w.heap.size + 1, 3, none⟩ (.float .f64 r')).setCell ⟨w.heap.size + 1, 4, none⟩ (.string s')).setCell ⟨w.heap.size + 1, 5, none⟩ (.slice ka' nk' kc')).setCell ⟨w.heap.size + 1, 6, none⟩ (.slice a' nd' cap')) := by
  have hK4 : Kept [] w w3 := Kept.trans hK2 hK3 (by simp) (by simp)
  have tr : ∀ keys' kids', nk' = List.length keys' → nd' = F.len kids' → Node (Fr N w1.heap.size w3.heap.size) w3 k' i' g' r' s' keys' kids' ka' kc' a' cap' →
      ∀ W, W = (((((((w3.setCell ⟨w.heap.size + 1, 0, none⟩ (.int .i64 k')).setCell ⟨w.heap.size + 1, 1, none⟩ (.int .i64 i')).setCell ⟨w.heap.size + 1, 2, none⟩ (.int .i64 g')).setCell ⟨w.heap.size + 1, 3, none⟩ (.float .f64 r')).setCell ⟨w.heap.size + 1, 4, none⟩ (.string s')).setCell ⟨w.heap.size + 1, 5, none⟩ (.slice ka' nk' kc')).setCell ⟨w.heap.size + 1, 6, none⟩ (.slice a' nd' cap')) →
      Node (Fr N w.heap.size W.heap.size) W k' i' g' r' s' keys' kids' ka' kc' a' cap' := by
    intro keys' kids' e1 e2 h3 W hW
    subst hW
    have hKw := kept7 (b := w.heap.size + 1) (Kept.refl [w.heap.size + 1] w3) (.inr (by simp)) (.int .i64 k') (.int .i64 i') (.int .i64 g') (.float .f64 r') (.string s') (.slice ka' nk' kc') (.slice a' nd' cap')
    refine (h3.kept hKw fun b hb => ⟨?_, fun hm => ?_⟩).mono fun b hb => ?_
    · rcases hb with h | ⟨_, h⟩
      · have := hK4.size; omega
      · exact h
    · simp at hm; subst hm
      rcases hb with h | ⟨h, _⟩ <;> omega
    · have := hK2.size
      rcases hb with h | ⟨h, h2⟩
      · exact .inl h
      · exact .inr ⟨by omega, by simpa using h2⟩
  refine ⟨kept7 hK4 (.inl (by omega)) _ _ _ _ _ _ _, k', i', g', r', s', ka', nk', kc', a', nd', cap', b, rfl, fun h => ?_, fun h => ?_⟩
  · obtain ⟨h1, h2, keys', kids', e1, e2, h3, h4⟩ := hb h
    exact ⟨h1, h2, keys', kids', e1, e2, tr keys' kids' e1 e2 h3 _ rfl, h4⟩
  · obtain ⟨keys', kids', e1, e2, h3⟩ := hbf h
    exact ⟨keys', kids', e1, e2, tr keys' kids' e1 e2 h3 _ rfl⟩
set_option maxRecDepth 100000 in
set_option maxHeartbeats 3000000 in
theorem fromObj (k i g : Int) (r : Nat) (s : ByteArray) (keys : List ByteArray) (kids : F) (N : Nat) (ka : Option Addr) (kc : Nat) (a : Option Addr) (cap : Nat) (w : World) (hn : Node (Lt N) w k i g r s keys kids ka kc a cap) (ht : Tb N w) (hN : N ≤ w.heap.size) :
    Calls Tryz.prog 10 #[.agg #[.int .i64 k, .int .i64 i, .int .i64 g, .float .f64 r, .string s, .slice ka keys.length kc, .slice a kids.len cap]] w (FoE N w k i g r s keys kids) := by
  obtain ⟨w0, hw0⟩ : ∃ w0, w0 = ((w.alloc (.cells #[.int .i64 k, .int .i64 i, .int .i64 g, .float .f64 r, .string s, .slice ka keys.length kc, .slice a kids.len cap] 26)).alloc (.cells #[.int .i64 0, .int .i64 0, .int .i64 0, .float .f64 0, .string ⟨#[]⟩, .slice none 0 0, .slice none 0 0] 31)).alloc (.cells #[.int .i64 20000] 3) := ⟨_, rfl⟩
  have hK0 : Kept [] w w0 := by rw [hw0]; exact (((Kept.refl [] w).alloc _).alloc _).alloc _
  have hs0 : w0.heap.size = w.heap.size + 3 := by rw [hw0]; simp
  have hX1 : w0.heap[w.heap.size]? = some (.cells #[.int .i64 k, .int .i64 i, .int .i64 g, .float .f64 r, .string s, .slice ka keys.length kc, .slice a kids.len cap] 26 (0, 0)) := by
    rw [hw0, heap_lt (by simp; omega), heap_lt (by simp)]; exact heap_at rfl
  have hX2 : w0.heap[w.heap.size + 1]? = some (.cells #[.int .i64 0, .int .i64 0, .int .i64 0, .float .f64 0, .string ⟨#[]⟩, .slice none 0 0, .slice none 0 0] 31 (0, 0)) := by
    rw [hw0, heap_lt (by simp)]; exact heap_at (by simp)
  have hL : w0.heap[w.heap.size + 2]? = some (.cells #[.int .i64 20000] 3 (0, 0)) := by rw [hw0]; exact heap_at (by simp)
  have HN := Lib.hid hn; clear hn
  go_enter Tryz.func10, Tryz.ntmps10
  have hlt2 : w.heap.size + 2 < w0.heap.size := by omega
  have hnL : w.heap.size + 1 ∉ [w.heap.size + 2] := by simp
  have hnL0 : w.heap.size ∉ [w.heap.size + 2] := by simp
  go_wp2_with fail
  rw [← hw0]
  refine ((few_node k i g r s keys kids) N (w.heap.size + 2) ka kc a cap 20000 w0 (HN.out.kept hK0 (ltk hN (by simp))) (by omega) hL).mono ?_
  rintro e w1 ⟨⟨b, rfl⟩, _, hK1⟩
  have hK2 : Kept [] w w1 := Kept.trans hK0 hK1 (by simp) (fun y hy hl => by simp at hy; omega)
  have hX1' := (hK1.block w.heap.size (by omega) hnL0).trans hX1
  have hX2' := (hK1.block (w.heap.size + 1) (by omega) hnL).trans hX2
  have hS1 : w.heap.size + 1 < w1.heap.size := by have := hK1.size; omega
  obtain ⟨⟨c0, c1, c2, c3, c4, c5, c6⟩, _⟩ := seven hX1'
  obtain ⟨⟨e0, e1, e2, e3, e4, e5, e6⟩, p0, p1, p2, p3, p4, p5, p6⟩ := seven hX2'
  have hoff := cell_set_off
  have hNw : N ≤ w1.heap.size := Nat.le_trans hN hK2.size
  clear hw0 hK0 hX1 hX2 hK1 hL hs0 hlt2 hnL hnL0
  have HX2 := Lib.hid hX2'; clear hX2' hX1'
  cases b
  case' false =>
    go_wp2_with fail
    refine bodyPost_ret (v := .tuple #[.agg #[.int .i64 0, .int .i64 0, .int .i64 0, .float .f64 0, .string ⟨#[]⟩, .slice none 0 0, .slice none 0 0], .bool false]) (by simp [results, Tryz.results10, go_sem, hoff, e0, e1, e2, e3, e4, e5, e6]) rfl ?_
    exact foNo (kept7 hK2 (.inl (by omega)) _ _ _ _ _ _ _)
  go_wp2_with fail
  refine ((fo_node k i g r s keys kids) N ka kc a cap w1 (HN.out.kept hK2 (ltk hN (by simp))) (ht.kept hK2 hN (by simp)) hNw).mono ?_
  rintro e w3 ⟨hK3, k3, i3, g3, r3, s3, ka3, nk3, kc3, a3, nd3, cap3, b3, rfl, hb3⟩
  have hX2'' := (hK3.block (w.heap.size + 1) hS1 (by simp)).trans HX2.out
  clear c0 c1 c2 c3 c4 c5 c6 e0 e1 e2 e3 e4 e5 e6 p0 p1 p2 p3 p4 p5 p6
  obtain ⟨⟨e0, e1, e2, e3, e4, e5, e6⟩, p0, p1, p2, p3, p4, p5, p6⟩ := seven hX2''
  clear hX2''
  have HB3 := Lib.hid hb3; clear hb3
  go_wp2_with fail
  refine bodyPost_ret (v := .tuple #[.agg #[.int .i64 k3, .int .i64 i3, .int .i64 g3, .float .f64 r3, .string s3, .slice ka3 nk3 kc3, .slice a3 nd3 cap3], .bool b3]) (by simp [results, Tryz.results10, go_sem, hoff, e0, e1, e2, e3, e4, e5, e6]) rfl ?_
  exact foStore hN hK2 hS1 hK3 HB3.out.1 HB3.out.2
end Go.Proofs.YtfkecmlmnhbmoaaGreatDoor
namespace Go.Proofs.YtfkecmlmnhbmoaaGreatDoor
open Go.RowKit
def KeyL (w0 : World) (m : Nat) (v : Value) (wr : World) : Prop := ∃ j : Nat, j ≤ m ∧ v = .int .i64 j ∧ wr = w0
set_option maxRecDepth 100000 in
set_option maxHeartbeats 3000000 in
theorem zfits2 (keys : List ByteArray) (N : Nat) (ka : Option Addr) (kc : Nat) (w : World) (hn : KeysIn (Lt N) w ka kc keys) :
    Calls Tryz.prog 21 #[.slice ka keys.length kc] w (fun e w' => RetB e ∧ w = w') := by
  have hlk : keys.length ≤ 140737488351232 := by have := hn.1; have := hn.2.1; omega
  have HK := Lib.hid hn; clear hn
  go_enter Tryz.func21, Tryz.ntmps21
  go_wp2_with fail
  · go_ret
    exact ⟨⟨_, rfl⟩, rfl⟩
  go_loopw [4, 10] (fun _ v wr => KeyL w keys.length v wr) (fun _ v _ => keys.length - (intOf v).toNat)
  case atStart => exact ⟨0, by omega, rfl, rfl⟩
  case round =>
    obtain ⟨j, hj, rfl, rfl⟩ := hrel
    by_cases hlt : j < keys.length
    · obtain ⟨b, o, rfl, hbN, hc, hsz⟩ := HK.out.2.2 j hlt
      go_wp2_with fail
      · go_ret
        exact ⟨⟨_, rfl⟩, rfl⟩
      · exact ⟨⟨j + 1, by omega, by go_num, rfl⟩, by simp [intOf]; omega⟩
    · go_wp2_with fail
      go_ret
      exact ⟨⟨_, rfl⟩, rfl⟩
/-- It fits: its parts are few. -/
def RetZ (kids : F) (e : Ending) : Prop := ∃ b : Bool, e = .returned (.bool b) ∧ (b = true → kids.len ≤ 2147483647)
set_option maxRecDepth 100000 in
set_option maxHeartbeats 3000000 in
theorem zfits1 (k i g : Int) (r : Nat) (s : ByteArray) (keys : List ByteArray) (kids : F) (N : Nat) (ka : Option Addr) (kc : Nat) (a : Option Addr) (cap : Nat) (w : World) (hn : Node (Lt N) w k i g r s keys kids ka kc a cap) (hN : N ≤ w.heap.size) :
    Calls Tryz.prog 7 #[.agg #[.int .i64 k, .int .i64 i, .int .i64 g, .float .f64 r, .string s, .slice ka keys.length kc, .slice a kids.len cap]] w (fun e w' => RetZ kids e ∧ Kept [] w w') := by
  obtain ⟨⟨⟨k1, k2⟩, ⟨i1, i2⟩, ⟨g1, g2⟩, r1, s1⟩, hkeys, hkids⟩ := hn
  have hk1 : keys.length ≤ 140737488351232 := by have := hkeys.1; have := hkeys.2.1; omega
  have hk2 : kids.len ≤ 140737488351232 := by have := hkids.1; have := hkids.2.1; omega
  obtain ⟨w0, hw0⟩ : ∃ w0, w0 = w.alloc (.cells #[.int .i64 k, .int .i64 i, .int .i64 g, .float .f64 r, .string s, .slice ka keys.length kc, .slice a kids.len cap] 26) := ⟨_, rfl⟩
  have hK0 : Kept [] w w0 := by rw [hw0]; exact (Kept.refl [] w).alloc _
  have hX : w0.heap[w.heap.size]? = some (.cells #[.int .i64 k, .int .i64 i, .int .i64 g, .float .f64 r, .string s, .slice ka keys.length kc, .slice a kids.len cap] 26 (0, 0)) := by rw [hw0]; exact heap_at rfl
  obtain ⟨⟨c0, c1, c2, c3, c4, c5, c6⟩, _⟩ := seven hX
  have hkeys0 := hkeys.kept hK0 (ltk hN (by simp))
  have HKE := Lib.hid hkeys0; have HKI := Lib.hid hkids; clear hX hkeys hkids hkeys0
  go_enter Tryz.func7, Tryz.ntmps7
  go_upto_region 1 with fail
  rw [← hw0]
  clear hw0
  go_wp2_with fail
  · go_ret
    exact ⟨⟨_, rfl, fun h => by first | (cases h; done) | omega⟩, hK0⟩
  refine (zfits2 keys N ka kc w0 HKE.out).mono ?_
  rintro e w1 ⟨⟨b, rfl⟩, rfl⟩
  cases b
  · go_wp2_with fail
    go_ret
    exact ⟨⟨_, rfl, fun h => by first | (cases h; done) | omega⟩, hK0⟩
  · go_wp2_with fail
    · go_ret
      exact ⟨⟨_, rfl, fun h => by first | (cases h; done) | omega⟩, hK0⟩
    · go_ret
      exact ⟨⟨_, rfl, fun h => by first | (cases h; done) | omega⟩, hK0⟩
/-- No null, and simple keys alone. -/
def NFree1 (k : Int) (keys : List ByteArray) : Prop := k ≠ 0 ∧ ∀ x ∈ keys, Simp x
def NFree : F → Prop
  | .nil => True
  | .cons k _ _ _ _ keys kids rest => NFree1 k keys ∧ NFree kids ∧ NFree rest
theorem NFree.snoc {k i g : Int} {r : Nat} {s : ByteArray} {keys : List ByteArray} {kids : F} (h1 : NFree1 k keys) (h2 : NFree kids) : ∀ {f : F}, NFree f → NFree (f.snoc k i g r s keys kids)
  | .nil, _ => ⟨h1, h2, trivial⟩
  | .cons _ _ _ _ _ _ _ _, ⟨a, b, c⟩ => ⟨a, b, NFree.snoc h1 h2 c⟩
def NfE (k i g : Int) (r : Nat) (s : ByteArray) (keys : List ByteArray) (kids : F) (w : World) (e : Ending) (w' : World) : Prop :=
  Kept [] w w' ∧ ∃ b : Bool, e = .returned (.bool b) ∧ (b = true → (NFree1 k keys ∧ NFree kids) ∧ Good1 k i g r s keys kids ∧ Good kids)
def NfC (k i g : Int) (r : Nat) (s : ByteArray) (keys : List ByteArray) (kids : F) : Prop := ∀ (N : Nat) (ka : Option Addr) (kc : Nat) (a : Option Addr) (cap : Nat) (w : World), Node (Lt N) w k i g r s keys kids ka kc a cap → Tb N w → N ≤ w.heap.size →
  Calls Tryz.prog 8 #[.agg #[.int .i64 k, .int .i64 i, .int .i64 g, .float .f64 r, .string s, .slice ka keys.length kc, .slice a kids.len cap]] w (NfE k i g r s keys kids w)
theorem NfE.no {k i g : Int} {r : Nat} {s : ByteArray} {keys : List ByteArray} {kids : F} {w w' : World} (h : Kept [] w w') : NfE k i g r s keys kids w (.returned (.bool false)) w' := ⟨h, false, rfl, fun h => by cases h⟩
def NfK (w0 : World) (keys : List ByteArray) (v : Value) (wr : World) : Prop := ∃ j : Nat, j ≤ keys.length ∧ v = .int .i64 j ∧ (∀ i (h : i < keys.length), i < j → Simp keys[i]) ∧ w0 = wr
def NfL (w0 : World) (kids : F) (v : Value) (wr : World) : Prop := ∃ j : Nat, j ≤ kids.len ∧ v = .int .i64 j ∧ NFree (kids.take j) ∧ Kept [] w0 wr
set_option maxRecDepth 100000 in
set_option maxHeartbeats 3000000 in
theorem nf_step (k i g : Int) (r : Nat) (s : ByteArray) (keys : List ByteArray) (kids : F) (ih : AllN NfC kids) : NfC k i g r s keys kids := by
  intro N ka kc a cap w hn ht hN
  have HN := Lib.hid hn
  obtain ⟨⟨⟨k1, k2⟩, ⟨i1, i2⟩, ⟨g1, g2⟩, r1, s1⟩, hkeys, hkids⟩ := hn
  have hk1 : keys.length ≤ 140737488351232 := by have := hkeys.1; have := hkeys.2.1; omega
  have hk2 : kids.len ≤ 140737488351232 := by have := hkids.1; have := hkids.2.1; omega
  obtain ⟨w0, hw0⟩ : ∃ w0, w0 = w.alloc (.cells #[.int .i64 k, .int .i64 i, .int .i64 g, .float .f64 r, .string s, .slice ka keys.length kc, .slice a kids.len cap] 26) := ⟨_, rfl⟩
  have hK0 : Kept [] w w0 := by rw [hw0]; exact (Kept.refl [] w).alloc _
  have hX : w0.heap[w.heap.size]? = some (.cells #[.int .i64 k, .int .i64 i, .int .i64 g, .float .f64 r, .string s, .slice ka keys.length kc, .slice a kids.len cap] 26 (0, 0)) := by rw [hw0]; exact heap_at rfl
  obtain ⟨⟨c0, c1, c2, c3, c4, c5, c6⟩, _⟩ := seven hX
  have hkeys0 := hkeys.kept hK0 (ltk hN (by simp))
  have hkids0 := hkids.kept hK0 (ltk hN (by simp))
  have ht0 := ht.kept hK0 hN (by simp)
  have hN0 : N ≤ w0.heap.size := Nat.le_trans hN hK0.size
  have HX := Lib.hid hX; have HKE := Lib.hid hkeys0; have HKI := Lib.hid hkids0; clear hX hkeys hkids hkeys0 hkids0 ht
  have HIH := Lib.hid ih; clear ih
  go_enter Tryz.func8, Tryz.ntmps8
  go_upto_region 1 with fail
  rw [← hw0]
  clear hw0
  by_cases hk0 : k = 0
  · have zk : (k == 0) = true := beq_iff_eq.2 hk0
    clear hk0
    go_wp2_with fail
    go_ret
    exact NfE.no hK0
  have zk : (k == 0) = false := beq_eq_false_iff_ne.2 hk0
  have HK0 := Lib.hid hk0; clear hk0
  go_wp2_with fail
  clear c0 c1 c2 c3 c4 c5
  go_loopw [4, 15] (fun _ v wr => NfK w0 keys v wr) (fun _ v _ => keys.length - (intOf v).toNat)
  case atStart => exact ⟨0, by omega, rfl, by omega, rfl⟩
  case round =>
    obtain ⟨j, hj, rfl, hs, rfl⟩ := hrel
    have HS := Lib.hid hs; clear hs
    by_cases hlt : j < keys.length
    · obtain ⟨b, o, rfl, hbN, hc, hsz⟩ := HKE.out.2.2 j hlt
      go_wp2_with fail
      refine (simplew keys[j] w0 (by omega)).mono ?_
      rintro e w1 ⟨⟨b1, rfl, hb1⟩, rfl⟩
      have HB := Lib.hid hb1; clear hb1
      cases b1
      · go_wp2_with fail
        go_ret
        exact NfE.no hK0
      · go_wp2_with fail
        refine ⟨⟨j + 1, by omega, by go_num, fun x hx hxj => ?_, rfl⟩, by simp [intOf]; omega⟩
        by_cases e : x = j
        · subst e; exact HB.out trivial
        · exact HS.out x hx (by omega)
    · have hall : ∀ x ∈ keys, Simp x := fun x hx => by
        obtain ⟨n, hn, rfl⟩ := List.getElem_of_mem hx
        exact HS.out n hn (by omega)
      have HA := Lib.hid hall; clear hall
      go_wp2_with fail
      clear hlt hj HS
      go_loopw [6, 26] (fun _ v wr => NfL w0 kids v wr) (fun _ v _ => kids.len - (intOf v).toNat)
      case atStart => exact ⟨0, by omega, rfl, trivial, Kept.refl _ _⟩
      case round =>
        obtain ⟨j, hj, rfl, hs, hK⟩ := hrel
        have HS := Lib.hid hs; clear hs
        have hKw : Kept [] w wr := Kept.trans hK0 hK (by simp) (by simp)
        have hNr : N ≤ wr.heap.size := Nat.le_trans hN hKw.size
        by_cases hlt : j < kids.len
        · obtain ⟨b, o, k', i', g', r', s', keys', kids', ka', kc', a', cap', rfl, hbN, hd, hcs, hnode⟩ := (HKI.out.kept hK (ltk hN0 (by simp))).at hlt
          rw [Nat.mul_comm 7 j] at hcs
          obtain ⟨d0, d1, d2, d3, d4, d5, d6⟩ := hcs
          have htr := ht0.kept hK hN0 (by simp)
          have hcall := fun W (hW : Kept [] wr W) => (HIH.out.at hd) N ka' kc' a' cap' W (hnode.kept hW (ltk hNr (by simp))) (htr.kept hW hNr (by simp)) (Nat.le_trans hNr hW.size)
          have HC := Lib.hid hcall; have HD := Lib.hid hd; clear hcall hd hnode htr
          go_wp2_with fail
          refine (HC.out _ ((Kept.refl [] wr).alloc _)).mono ?_
          rintro e w2 ⟨hK2, b2, rfl, hb2⟩
          have hK3 : Kept [] wr w2 := Kept.trans ((Kept.refl [] wr).alloc _) hK2 (by simp) (by simp)
          have hK4 : Kept [] w0 w2 := Kept.trans hK hK3 (by simp) (by simp)
          have HB := Lib.hid hb2; clear hb2
          cases b2
          · go_wp2_with fail
            go_ret
            exact NfE.no (Kept.trans hK0 hK4 (by simp) (by simp))
          · go_wp2_with fail
            refine ⟨⟨j + 1, by omega, by go_num, ?_, hK4⟩, by simp [intOf]; omega⟩
            rw [F.take_succ j HD.out]; exact NFree.snoc (HB.out trivial).1.1 (HB.out trivial).1.2 HS.out
        · have hjl : j = kids.len := by omega
          have hnf : NFree kids := by have := HS.out; rw [hjl, F.take_all] at this; exact this
          have HNF := Lib.hid hnf; clear hnf hjl
          have hX1 := (hK.block w.heap.size (lt_of_block HX.out) (by simp)).trans HX.out
          clear c6
          obtain ⟨⟨c0, c1, c2, c3, c4, c5, c6⟩, _⟩ := seven hX1
          clear hX1
          go_wp2_with fail
          refine (fromObj k i g r s keys kids N ka kc a cap wr (HN.out.kept hKw (ltk hN (by simp))) (ht0.kept hK hN0 (by simp)) hNr).mono ?_
          rintro e w3 ⟨hK3, k3, i3, g3, r3, s3, ka3, nk3, kc3, a3, nd3, cap3, b3, rfl, hb3⟩
          have hK4 : Kept [] w w3 := Kept.trans hKw hK3 (by simp) (by simp)
          have HB := Lib.hid hb3; clear hb3
          go_wp2_with fail
          go_ret
          exact ⟨hK4.alloc _, _, rfl, fun h => ⟨⟨⟨HK0.out, HA.out⟩, HNF.out⟩, (HB.out.1 h).1, (HB.out.1 h).2.1⟩⟩
theorem nf_node (k i g : Int) (r : Nat) (s : ByteArray) (keys : List ByteArray) (kids : F) : NfC k i g r s keys kids := AllN.node nf_step k i g r s keys kids
end Go.Proofs.YtfkecmlmnhbmoaaGreatDoor
namespace Go.Proofs.YtfkecmlmnhbmoaaGreatDoor
open Go.RowKit
theorem F.size_snoc (k i g : Int) (r : Nat) (s : ByteArray) (keys : List ByteArray) (kids : F) : ∀ f : F, (f.snoc k i g r s keys kids).size = f.size + kids.size + 1
  | .nil => by simp [F.snoc, F.size]
  | .cons _ _ _ _ _ _ _ rest => by simp only [F.snoc, F.size, F.size_snoc k i g r s keys kids rest]; omega
def NdE (kids : F) (most : Int) (w : World) (e : Ending) (w' : World) : Prop :=
  Kept [] w w' ∧ ∃ n : Int, e = .returned (.int .i64 n) ∧ 1 ≤ n ∧ n ≤ most + 1 ∧ (n ≤ most → n = kids.size + 1)
def NdC (k i g : Int) (r : Nat) (s : ByteArray) (keys : List ByteArray) (kids : F) : Prop := ∀ (N : Nat) (ka : Option Addr) (kc : Nat) (a : Option Addr) (cap : Nat) (most : Int) (w : World), Node (Lt N) w k i g r s keys kids ka kc a cap → N ≤ w.heap.size → 0 ≤ most → most ≤ 5000 →
  Calls Tryz.prog 25 #[.agg #[.int .i64 k, .int .i64 i, .int .i64 g, .float .f64 r, .string s, .slice ka keys.length kc, .slice a kids.len cap], .int .i64 most] w (NdE kids most w)
def NdL (w0 : World) (most : Int) (kids : F) (v5 v6 : Value) (wr : World) : Prop := ∃ (n : Int) (j : Nat), v5 = .int .i64 n ∧ v6 = .int .i64 j ∧ j ≤ kids.len ∧ 1 ≤ n ∧ n ≤ most + 1 ∧ (n ≤ most → n = (kids.take j).size + 1) ∧ Kept [] w0 wr
set_option maxRecDepth 100000 in
set_option maxHeartbeats 3000000 in
theorem nd_step (k i g : Int) (r : Nat) (s : ByteArray) (keys : List ByteArray) (kids : F) (ih : AllN NdC kids) : NdC k i g r s keys kids := by
  intro N ka kc a cap most w hn hN hm0 hm1
  obtain ⟨⟨⟨k1, k2⟩, ⟨i1, i2⟩, ⟨g1, g2⟩, r1, s1⟩, hkeys, hkids⟩ := hn
  have hk1 : keys.length ≤ 140737488351232 := by have := hkeys.1; have := hkeys.2.1; omega
  have hk2 : kids.len ≤ 140737488351232 := by have := hkids.1; have := hkids.2.1; omega
  obtain ⟨w0, hw0⟩ : ∃ w0, w0 = w.alloc (.cells #[.int .i64 k, .int .i64 i, .int .i64 g, .float .f64 r, .string s, .slice ka keys.length kc, .slice a kids.len cap] 31) := ⟨_, rfl⟩
  have hK0 : Kept [] w w0 := by rw [hw0]; exact (Kept.refl [] w).alloc _
  have hX : w0.heap[w.heap.size]? = some (.cells #[.int .i64 k, .int .i64 i, .int .i64 g, .float .f64 r, .string s, .slice ka keys.length kc, .slice a kids.len cap] 31 (0, 0)) := by rw [hw0]; exact heap_at rfl
  have hkids0 := hkids.kept hK0 (ltk hN (by simp))
  have hN0 : N ≤ w0.heap.size := Nat.le_trans hN hK0.size
  have HX := Lib.hid hX; have HKI := Lib.hid hkids0; clear hX hkeys hkids hkids0
  have HIH := Lib.hid ih; clear ih
  go_enter Tryz.func25, Tryz.ntmps25
  go_upto_region 1 with fail
  rw [← hw0]
  clear hw0
  go_wp2_with fail
  go_loopw [5, 6] (fun v5 v6 wr => NdL w0 most kids v5 v6 wr) (fun _ v _ => kids.len - (intOf v).toNat)
  case atStart => exact ⟨1, 0, rfl, rfl, by omega, by omega, by omega, fun _ => by simp [F.take, F.size], Kept.refl _ _⟩
  case round =>
    obtain ⟨n, j, rfl, rfl, hj, hn1, hn2, hs, hK⟩ := hrel
    have HS := Lib.hid hs; clear hs
    have hKw : Kept [] w wr := Kept.trans hK0 hK (by simp) (by simp)
    have hNr : N ≤ wr.heap.size := Nat.le_trans hN hKw.size
    have hX1 := (hK.block w.heap.size (lt_of_block HX.out) (by simp)).trans HX.out
    obtain ⟨⟨c0, c1, c2, c3, c4, c5, c6⟩, _⟩ := seven hX1
    clear hX1
    by_cases hlt : j < kids.len
    · by_cases hnm : n ≤ most
      · obtain ⟨b, o, k', i', g', r', s', keys', kids', ka', kc', a', cap', rfl, hbN, hd, hcs, hnode⟩ := (HKI.out.kept hK (ltk hN0 (by simp))).at hlt
        rw [Nat.mul_comm 7 j] at hcs
        obtain ⟨d0, d1, d2, d3, d4, d5, d6⟩ := hcs
        have hcall := (HIH.out.at hd) N ka' kc' a' cap' (most - n) wr hnode hNr (by omega) (by omega)
        have HC := Lib.hid hcall; have HD := Lib.hid hd; clear hcall hd hnode
        go_wp2_with fail
        refine HC.out.mono ?_
        rintro e w2 ⟨hK2, n2, rfl, hb1, hb2, hb3⟩
        have HB := Lib.hid hb3; clear hb3
        have hK4 : Kept [] w0 w2 := Kept.trans hK hK2 (by simp) (by simp)
        go_wp2_with fail
        refine ⟨⟨n + n2, j + 1, rfl, by go_num, by omega, by omega, by omega, fun h => ?_, hK4⟩, by simp [intOf]; omega⟩
        rw [F.take_succ j HD.out, F.size_snoc, HS.out (by omega), HB.out (by omega)]
        omega
      · go_wp2_with fail
        go_ret
        exact ⟨hKw, n, rfl, hn1, hn2, fun h => absurd h (by omega)⟩
    · have hjl : j = kids.len := by omega
      have hsz : n ≤ most → n = kids.size + 1 := by have := HS.out; rw [hjl, F.take_all] at this; exact this
      have HSZ := Lib.hid hsz; clear hsz
      go_wp2_with fail
      go_ret
      exact ⟨hKw, n, rfl, hn1, hn2, HSZ.out⟩
theorem nd_node (k i g : Int) (r : Nat) (s : ByteArray) (keys : List ByteArray) (kids : F) : NdC k i g r s keys kids := AllN.node nd_step k i g r s keys kids
def LvE (kids : F) (w : World) (e : Ending) (w' : World) : Prop := Kept [] w w' ∧ ∃ n : Int, e = .returned (.int .i64 n) ∧ 0 ≤ n ∧ n ≤ kids.size + 1
def LvC (k i g : Int) (r : Nat) (s : ByteArray) (keys : List ByteArray) (kids : F) : Prop := ∀ (N : Nat) (ka : Option Addr) (kc : Nat) (a : Option Addr) (cap : Nat) (w : World), Node (Lt N) w k i g r s keys kids ka kc a cap → N ≤ w.heap.size → kids.size ≤ 5000 →
  Calls Tryz.prog 26 #[.agg #[.int .i64 k, .int .i64 i, .int .i64 g, .float .f64 r, .string s, .slice ka keys.length kc, .slice a kids.len cap]] w (LvE kids w)
def LvL (w0 : World) (kids : F) (v3 v9 : Value) (wr : World) : Prop := ∃ (n : Int) (j : Nat), v3 = .int .i64 n ∧ v9 = .int .i64 j ∧ j ≤ kids.len ∧ 0 ≤ n ∧ n ≤ kids.size ∧ Kept [] w0 wr
theorem F.size_drop : ∀ (n : Nat) (f : F), (f.drop n).size ≤ f.size
  | 0, _ => Nat.le_refl _
  | _ + 1, .nil => Nat.le_refl _
  | n + 1, .cons _ _ _ _ _ _ _ rest => by have := F.size_drop n rest; simp only [F.drop, F.size]; omega
theorem F.size_at {f rest : F} {n : Nat} {k i g : Int} {r : Nat} {s : ByteArray} {keys : List ByteArray} {kids : F} (h : f.drop n = .cons k i g r s keys kids rest) : kids.size + 1 ≤ f.size := by
  have := F.size_drop n f
  rw [h] at this
  simp only [F.size] at this; omega
set_option maxRecDepth 100000 in
set_option maxHeartbeats 3000000 in
theorem lv_step (k i g : Int) (r : Nat) (s : ByteArray) (keys : List ByteArray) (kids : F) (ih : AllN LvC kids) : LvC k i g r s keys kids := by
  intro N ka kc a cap w hn hN hm1
  obtain ⟨⟨⟨k1, k2⟩, ⟨i1, i2⟩, ⟨g1, g2⟩, r1, s1⟩, hkeys, hkids⟩ := hn
  have hk1 : keys.length ≤ 140737488351232 := by have := hkeys.1; have := hkeys.2.1; omega
  have hk2 : kids.len ≤ 140737488351232 := by have := hkids.1; have := hkids.2.1; omega
  obtain ⟨w0, hw0⟩ : ∃ w0, w0 = w.alloc (.cells #[.int .i64 k, .int .i64 i, .int .i64 g, .float .f64 r, .string s, .slice ka keys.length kc, .slice a kids.len cap] 31) := ⟨_, rfl⟩
  have hK0 : Kept [] w w0 := by rw [hw0]; exact (Kept.refl [] w).alloc _
  have hX : w0.heap[w.heap.size]? = some (.cells #[.int .i64 k, .int .i64 i, .int .i64 g, .float .f64 r, .string s, .slice ka keys.length kc, .slice a kids.len cap] 31 (0, 0)) := by rw [hw0]; exact heap_at rfl
  obtain ⟨⟨c0, c1, c2, c3, c4, c5, c6⟩, _⟩ := seven hX
  have hkids0 := hkids.kept hK0 (ltk hN (by simp))
  have hN0 : N ≤ w0.heap.size := Nat.le_trans hN hK0.size
  have HKI := Lib.hid hkids0; clear hX hkeys hkids hkids0
  have HIH := Lib.hid ih; clear ih
  go_enter Tryz.func26, Tryz.ntmps26
  go_upto_region 1 with fail
  rw [← hw0]
  clear hw0
  go_wp2_with fail
  clear c0 c1 c2 c3 c4 c5 c6
  go_loopw [3, 5, 9] (fun v3 _ v9 wr => LvL w0 kids v3 v9 wr) (fun _ _ v _ => kids.len - (intOf v).toNat)
  case atStart => exact ⟨0, 0, rfl, rfl, by omega, by omega, by omega, Kept.refl _ _⟩
  case round =>
    obtain ⟨n, j, rfl, rfl, hj, hn1, hn2, hK⟩ := hrel
    have hKw : Kept [] w wr := Kept.trans hK0 hK (by simp) (by simp)
    have hNr : N ≤ wr.heap.size := Nat.le_trans hN hKw.size
    by_cases hlt : j < kids.len
    · obtain ⟨b, o, k', i', g', r', s', keys', kids', ka', kc', a', cap', rfl, hbN, hd, hcs, hnode⟩ := (HKI.out.kept hK (ltk hN0 (by simp))).at hlt
      rw [Nat.mul_comm 7 j] at hcs
      obtain ⟨d0, d1, d2, d3, d4, d5, d6⟩ := hcs
      have hs2 := F.size_at hd
      have hcall := fun W (hW : Kept [] wr W) => (HIH.out.at hd) N ka' kc' a' cap' W (hnode.kept hW (ltk hNr (by simp))) (Nat.le_trans hNr hW.size) (by omega)
      have HC := Lib.hid hcall; clear hcall hd hnode
      go_wp2_with fail
      refine (HC.out _ ((Kept.refl [] wr).alloc _)).mono ?_
      rintro e w2 ⟨hK2, n2, rfl, hb1, hb2⟩
      have hK3 : Kept [] wr w2 := Kept.trans ((Kept.refl [] wr).alloc _) hK2 (by simp) (by simp)
      have hK4 : Kept [] w0 w2 := Kept.trans hK hK3 (by simp) (by simp)
      go_wp2_with fail
      refine ⟨⟨_, j + 1, rfl, by go_num, by omega, ?_, ?_, hK4⟩, by simp [intOf]; omega⟩ <;> omega
    · go_wp2_with fail
      go_ret
      exact ⟨hKw, n + 1, rfl, by omega, by omega⟩
theorem lv_node (k i g : Int) (r : Nat) (s : ByteArray) (keys : List ByteArray) (kids : F) : LvC k i g r s keys kids := AllN.node lv_step k i g r s keys kids
def MoE (kids : F) (w : World) (e : Ending) (w' : World) : Prop := Kept [] w w' ∧ ∃ b : Bool, e = .returned (.bool b) ∧ (b = true → kids.size ≤ 5000)
set_option maxRecDepth 100000 in
set_option maxHeartbeats 3000000 in
theorem modest (k i g : Int) (r : Nat) (s : ByteArray) (keys : List ByteArray) (kids : F) (N : Nat) (ka : Option Addr) (kc : Nat) (a : Option Addr) (cap : Nat) (w : World) (hn : Node (Lt N) w k i g r s keys kids ka kc a cap) (hN : N ≤ w.heap.size) :
    Calls Tryz.prog 11 #[.agg #[.int .i64 k, .int .i64 i, .int .i64 g, .float .f64 r, .string s, .slice ka keys.length kc, .slice a kids.len cap]] w (MoE kids w) := by
  obtain ⟨w0, hw0⟩ : ∃ w0, w0 = w.alloc (.cells #[.int .i64 k, .int .i64 i, .int .i64 g, .float .f64 r, .string s, .slice ka keys.length kc, .slice a kids.len cap] 31) := ⟨_, rfl⟩
  have hK0 : Kept [] w w0 := by rw [hw0]; exact (Kept.refl [] w).alloc _
  have hX : w0.heap[w.heap.size]? = some (.cells #[.int .i64 k, .int .i64 i, .int .i64 g, .float .f64 r, .string s, .slice ka keys.length kc, .slice a kids.len cap] 31 (0, 0)) := by rw [hw0]; exact heap_at rfl
  obtain ⟨⟨c0, c1, c2, c3, c4, c5, c6⟩, _⟩ := seven hX
  have hN0 : N ≤ w0.heap.size := Nat.le_trans hN hK0.size
  have HX := Lib.hid hX; have HN := Lib.hid hn; clear hX hn
  go_enter Tryz.func11, Tryz.ntmps11
  go_upto_region 1 with fail
  rw [← hw0]
  clear hw0
  go_wp2_with fail
  refine ((nd_node k i g r s keys kids) N ka kc a cap 5000 w0 (HN.out.kept hK0 (ltk hN (by simp))) hN0 (by omega) (by omega)).mono ?_
  rintro e w1 ⟨hK1, n, rfl, hn1, hn2, hn3⟩
  have hK2 : Kept [] w w1 := Kept.trans hK0 hK1 (by simp) (by simp)
  have hX1 := (hK1.block w.heap.size (lt_of_block HX.out) (by simp)).trans HX.out
  clear c0 c1 c2 c3 c4 c5 c6
  obtain ⟨⟨c0, c1, c2, c3, c4, c5, c6⟩, _⟩ := seven hX1
  clear hX1
  by_cases h5 : n ≤ 5000
  · have hs := hn3 h5
    clear hn3
    go_wp2_with fail
    refine ((lv_node k i g r s keys kids) N ka kc a cap w1 (HN.out.kept hK2 (ltk hN (by simp))) (Nat.le_trans hN hK2.size) (by omega)).mono ?_
    rintro e w2 ⟨hK3, n2, rfl, hb1, hb2⟩
    go_wp2_with fail
    go_ret
    exact ⟨Kept.trans hK2 hK3 (by simp) (by simp), _, rfl, fun _ => by omega⟩
  · clear hn3
    go_wp2_with fail
    go_ret
    exact ⟨hK2, _, rfl, fun h => by cases h⟩
end Go.Proofs.YtfkecmlmnhbmoaaGreatDoor
namespace Go.Proofs.YtfkecmlmnhbmoaaGreatDoor
open Go.RowKit
def decVal (l : List UInt8) : Nat := l.foldl (fun a c => a * 10 + (c.toNat - 48)) 0
/-- The text of a whole number not below zero. -/
def txtOf (n : Nat) : ByteArray := ⟨(Lib.itoa (n : Int)).toArray⟩
theorem bl_inj {a b : ByteArray} (h : a.toList = b.toList) : a = b := by
  rw [ByteArray.toList_eq, ByteArray.toList_eq] at h
  exact ByteArray.ext (Array.toList_inj.1 h)
theorem beq_of {a b : ByteArray} (h : a = b) : (a.toList == b.toList) = true := by subst h; exact beq_self_eq_true _
theorem beq_not {a b : ByteArray} (h : a ≠ b) : (a.toList == b.toList) = false := beq_eq_false_iff_ne.2 fun e => h (bl_inj e)
end Go.Proofs.YtfkecmlmnhbmoaaGreatDoor
namespace Go.Proofs.YtfkecmlmnhbmoaaGreatDoor
open Go.RowKit
set_option maxRecDepth 100000 in
set_option maxHeartbeats 3000000 in
theorem decode (s : ByteArray) (w : World) (hs : Simp s) (hz : s.size ≤ 140737488355000) : Calls Tryz.prog 73 #[.string s] w fun e w' => e = .returned (.tuple #[.string s, .nilIface]) ∧ Kept [] w w' := by
  have HS := Lib.hid hs; clear hs
  go_enter Tryz.func73, Tryz.ntmps73
  go_wp2_with fail
  go_loopw [4, 6, 7] (fun v4 v _ wr => ∃ k : Nat, k ≤ s.size ∧ v4 = .bool false ∧ v = .int .i64 k ∧ Kept [] w wr) (fun _ v _ _ => s.size - (intOf v).toNat)
  case atStart => exact ⟨0, by omega, rfl, rfl, (Kept.refl _ _).alloc _⟩
  case round =>
    obtain ⟨k, hk, rfl, rfl, hK⟩ := hrel
    by_cases hlt : k < s.size
    · have hc := (s[k]'hlt).toNat_lt
      have ha := HS.out.ch k hlt
      unfold Alnum at ha
      have h0 : (s[k]'hlt).toNat ≠ 0 := by omega
      have h35 : (s[k]'hlt).toNat ≠ 35 := by omega
      clear ha
      go_wp2_with fail
      exact ⟨⟨k + 1, by omega, rfl, by go_num, hK⟩, by simp [intOf]; omega⟩
    · go_wp2_with fail
      go_ret2
      exact ⟨rfl, hK⟩
end Go.Proofs.YtfkecmlmnhbmoaaGreatDoor
