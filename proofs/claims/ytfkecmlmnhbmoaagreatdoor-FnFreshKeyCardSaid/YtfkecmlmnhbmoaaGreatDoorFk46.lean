import Derived.Test.YtfkecmlmnhbmoaaGreatDoorFk26
import Derived.Test.YtfkecmlmnhbmoaaGreatDoorFk28
import Derived.Test.YtfkecmlmnhbmoaaGreatDoorFk29
import Derived.Test.YtfkecmlmnhbmoaaGreatDoorFk45
import Derived.BigRegion
import Derived.Deep.RegionWith
import Derived.Deep.RegionHeld3
import Derived.Test.YtfkecmlmnhbmoaaGreatDoorFk31
import Derived.Test.YtfkecmlmnhbmoaaGreatDoorFk32
import Derived.Test.YtfkecmlmnhbmoaaGreatDoorFk06
import Derived.Lib.ItoaLen
namespace Go.Proofs.YtfkecmlmnhbmoaaGreatDoor
open Go.RowKit
def TwY (_r : Nat) (b : Bool) (w1 : World) (A B : Nat) (c d : Obj) (e : Ending) (w' : World) : Prop := e = .returned (.bool b) ∧ Kept [] w1 w' ∧ w'.heap[A]? = some c ∧ w'.heap[B]? = some d
set_option maxRecDepth 100000 in
set_option maxHeartbeats 8000000 in
theorem fo3F (N : Nat) (W0 : World) (ht0 : Tb N W0) (hN0 : N ≤ W0.heap.size) (i g : Int) (r : Nat) (s : ByteArray) (keys : List ByteArray) (kids : F) : FoF N W0 3 i g r s keys kids := by
  cases hon : onlyB 3 i g r s keys.length kids.len
  · refine ⟨false, ?_⟩
    have HON := Lib.hid hon; clear hon
    intro ka kc a cap w hkw hn
    have ht := ht0.kept hkw hN0 (by simp)
    have hN : N ≤ w.heap.size := Nat.le_trans hN0 hkw.size
    have hfld := hn.fld
    obtain ⟨⟨k1, k2⟩, ⟨i1, i2⟩, ⟨g1, g2⟩, r1, s1⟩ := hn.fld
    have hlk1 : keys.length ≤ 140737488351232 := by have := hn.keys.2.1; omega
    have hlk2 : kids.len ≤ 140737488351232 := by have := hn.kids.2.1; omega
    obtain ⟨w0, hw0⟩ : ∃ w0, w0 = (w.alloc (.cells #[.int .i64 3, .int .i64 i, .int .i64 g, .float .f64 r, .string s, .slice ka keys.length kc, .slice a kids.len cap] 26)).alloc (.cells #[.int .i64 0, .int .i64 0, .int .i64 0, .float .f64 0, .string ⟨#[]⟩, .slice none 0 0, .slice none 0 0] 31) := ⟨_, rfl⟩
    have hK0 : Kept [] w w0 := by rw [hw0]; exact ((Kept.refl [] w).alloc _).alloc _
    have hs0 : w0.heap.size = w.heap.size + 2 := by rw [hw0]; simp
    have hX1 : w0.heap[w.heap.size]? = some (.cells #[.int .i64 3, .int .i64 i, .int .i64 g, .float .f64 r, .string s, .slice ka keys.length kc, .slice a kids.len cap] 26 (0, 0)) := by
      rw [hw0, heap_lt (by simp)]; exact heap_at rfl
    have hX2 : w0.heap[w.heap.size + 1]? = some (.cells #[.int .i64 0, .int .i64 0, .int .i64 0, .float .f64 0, .string ⟨#[]⟩, .slice none 0 0, .slice none 0 0] 31 (0, 0)) := by
      rw [hw0]; exact heap_at (by simp)
    have hS0 : w.heap.size + 1 < w0.heap.size := by omega
    have HN := Lib.hid hn; clear hn hs0
    go_enter Tryz.func24, Tryz.ntmps24
    go_wp2_with fail
    rw [← hw0]
    refine (onlywF 3 i g r s ka keys.length kc a kids.len cap w0 hfld hlk1 hlk2).mono ?_
    rintro e w1 ⟨rfl, hK1⟩
    rw [HON.out]
    have hK2 : Kept [] w w1 := Kept.trans hK0 hK1 (by simp) (by simp)
    have hX1' := (hK1.block w.heap.size (by omega) (by simp)).trans hX1
    have hX2' := (hK1.block (w.heap.size + 1) (by omega) (by simp)).trans hX2
    have hS1 : w.heap.size + 1 < w1.heap.size := Nat.lt_of_lt_of_le hS0 hK1.size
    have hS2 : w.heap.size < w1.heap.size := by omega
    obtain ⟨⟨c0, c1, c2, c3, c4, c5, c6⟩, _⟩ := seven hX1'
    obtain ⟨⟨e0, e1, e2, e3, e4, e5, e6⟩, p0, p1, p2, p3, p4, p5, p6⟩ := seven hX2'
    have hoff := cell_set_off
    have r0 := fun (X : World) (i j : Nat) (u : Value) => cell_set_other (show w.heap.size + 1 ≠ w.heap.size by omega) i j X u
    clear hw0 hK0 hX1 hX2 hS0 hK1
    have HX1 := Lib.hid hX1'; have HX2 := Lib.hid hX2'; clear hX1' hX2'
    go_wp2_with fail
    refine bodyPost_ret (v := .tuple #[.agg #[.int .i64 0, .int .i64 0, .int .i64 0, .float .f64 0, .string ⟨#[]⟩, .slice none 0 0, .slice none 0 0], .bool false]) (by simp [results, Tryz.results24, go_sem, hoff, e0, e1, e2, e3, e4, e5, e6]) rfl ?_
    exact ⟨foNo (kept7 hK2 (.inl (by omega)) _ _ _ _ _ _ _), _, (by first | rfl | (rw [FL.out]; done) | (rw [FL.out]; rfl))⟩
  have ho := onlyB_true.1 hon
  have HON := Lib.hid hon; clear hon
  have HO := Lib.hid ho; clear ho
  by_cases hr9 : r < 18446744073709551616
  · obtain ⟨bt, hnan, hTW⟩ := twelveF r N W0 hr9 ht0 hN0
    refine ⟨bt, ?_⟩
    have HTW := Lib.hid hTW; clear hTW
    intro ka kc a cap w hkw hn
    have ht := ht0.kept hkw hN0 (by simp)
    have hN : N ≤ w.heap.size := Nat.le_trans hN0 hkw.size
    have hfld := hn.fld
    obtain ⟨⟨k1, k2⟩, ⟨i1, i2⟩, ⟨g1, g2⟩, r1, s1⟩ := hn.fld
    have hlk1 : keys.length ≤ 140737488351232 := by have := hn.keys.2.1; omega
    have hlk2 : kids.len ≤ 140737488351232 := by have := hn.kids.2.1; omega
    obtain ⟨w0, hw0⟩ : ∃ w0, w0 = (w.alloc (.cells #[.int .i64 3, .int .i64 i, .int .i64 g, .float .f64 r, .string s, .slice ka keys.length kc, .slice a kids.len cap] 26)).alloc (.cells #[.int .i64 0, .int .i64 0, .int .i64 0, .float .f64 0, .string ⟨#[]⟩, .slice none 0 0, .slice none 0 0] 31) := ⟨_, rfl⟩
    have hK0 : Kept [] w w0 := by rw [hw0]; exact ((Kept.refl [] w).alloc _).alloc _
    have hs0 : w0.heap.size = w.heap.size + 2 := by rw [hw0]; simp
    have hX1 : w0.heap[w.heap.size]? = some (.cells #[.int .i64 3, .int .i64 i, .int .i64 g, .float .f64 r, .string s, .slice ka keys.length kc, .slice a kids.len cap] 26 (0, 0)) := by
      rw [hw0, heap_lt (by simp)]; exact heap_at rfl
    have hX2 : w0.heap[w.heap.size + 1]? = some (.cells #[.int .i64 0, .int .i64 0, .int .i64 0, .float .f64 0, .string ⟨#[]⟩, .slice none 0 0, .slice none 0 0] 31 (0, 0)) := by
      rw [hw0]; exact heap_at (by simp)
    have hS0 : w.heap.size + 1 < w0.heap.size := by omega
    have HN := Lib.hid hn; clear hn hs0
    go_enter Tryz.func24, Tryz.ntmps24
    go_wp2_with fail
    rw [← hw0]
    refine (onlywF 3 i g r s ka keys.length kc a kids.len cap w0 hfld hlk1 hlk2).mono ?_
    rintro e w1 ⟨rfl, hK1⟩
    rw [HON.out]
    have hK2 : Kept [] w w1 := Kept.trans hK0 hK1 (by simp) (by simp)
    have hX1' := (hK1.block w.heap.size (by omega) (by simp)).trans hX1
    have hX2' := (hK1.block (w.heap.size + 1) (by omega) (by simp)).trans hX2
    have hS1 : w.heap.size + 1 < w1.heap.size := Nat.lt_of_lt_of_le hS0 hK1.size
    have hS2 : w.heap.size < w1.heap.size := by omega
    obtain ⟨⟨c0, c1, c2, c3, c4, c5, c6⟩, _⟩ := seven hX1'
    obtain ⟨⟨e0, e1, e2, e3, e4, e5, e6⟩, p0, p1, p2, p3, p4, p5, p6⟩ := seven hX2'
    have hoff := cell_set_off
    have r0 := fun (X : World) (i j : Nat) (u : Value) => cell_set_other (show w.heap.size + 1 ≠ w.heap.size by omega) i j X u
    clear hw0 hK0 hX1 hX2 hS0 hK1
    have HX1 := Lib.hid hX1'; have HX2 := Lib.hid hX2'; clear hX1' hX2'
    have hT : ∀ W : World, (∃ k, W = w1.drewN k) → Calls Tryz.prog 42 #[.float .f64 r] W (TwY r bt w1 w.heap.size (w.heap.size + 1) (.cells #[.int .i64 3, .int .i64 i, .int .i64 g, .float .f64 r, .string s, .slice ka keys.length kc, .slice a kids.len cap] 26 (0, 0)) (.cells #[.int .i64 0, .int .i64 0, .int .i64 0, .float .f64 0, .string ⟨#[]⟩, .slice none 0 0, .slice none 0 0] 31 (0, 0))) := fun W ⟨k, h⟩ => by
      subst h
      refine (HTW.out _ ((Kept.trans hkw hK2 (by simp) (by simp) : Kept [] W0 w1).drewN k)).mono ?_
      rintro e w' ⟨hb, hk⟩
      have hk' : Kept [] w1 w' := Kept.trans ((Kept.refl [] w1).drewN k) hk (by simp) (by simp)
      exact ⟨hb, hk', (hk'.block _ hS2 (by simp)).trans HX1.out, (hk'.block _ hS1 (by simp)).trans HX2.out⟩
    have HT := Lib.hid hT; clear hT
    go_wp2_with fail
    go_region_with ((go_at_call 42; refine (HT.out _ ⟨_, rfl⟩).mono ?_; rintro e w3 ⟨rfl, hK3, hA, hB⟩; obtain ⟨⟨d0, d1, d2, d3, d4, d5, d6⟩, _⟩ := seven hA; obtain ⟨⟨f0, f1, f2, f3, f4, f5, f6⟩, q0, q1, q2, q3, q4, q5, q6⟩ := seven hB))
    all_goals go_wp2_with fail
    all_goals have hK4 := Kept.trans (Z := []) hK2 hK3 (by simp) (by simp)
    all_goals refine bodyPost_ret (v := .tuple #[.agg #[.int .i64 3, .int .i64 0, .int .i64 0, .float .f64 r, .string ⟨#[]⟩, .slice none 0 0, .slice none 0 0], .bool bt]) (by simp [results, Tryz.results24, go_sem, hoff, f0, f1, f2, f3, f4, f5, f6]) rfl ?_
    all_goals exact ⟨foLeaf (by repeat (first | with_reducible exact hK4 | with_reducible refine Kept.drew ?_ | with_reducible refine Kept.drewN ?_ _ | with_reducible refine Kept.setCell ?_ (.inl (by show w.heap.size ≤ w.heap.size + 1; omega)) _ | with_reducible refine Kept.alloc ?_ _)) (⟨⟨by omega, by omega⟩, ⟨by omega, by omega⟩, ⟨by omega, by omega⟩, r1, Nat.zero_le _⟩) (fun h => ⟨⟨HO.out, by omega, by omega, by omega, fun _ => hnan h, by omega, by omega⟩, onlyNil HO.out (by decide)⟩) (by decide), _, rfl⟩
  · exact ⟨true, fun ka kc a cap w hkw hn => absurd hn.fld.r hr9⟩
end Go.Proofs.YtfkecmlmnhbmoaaGreatDoor
namespace Go.Proofs.YtfkecmlmnhbmoaaGreatDoor
open Go.RowKit
set_option maxRecDepth 100000 in
set_option maxHeartbeats 8000000 in
theorem fo6F (N : Nat) (W0 : World) (ht0 : Tb N W0) (hN0 : N ≤ W0.heap.size) (i g : Int) (r : Nat) (s : ByteArray) (keys : List ByteArray) (kids : F) : FoF N W0 6 i g r s keys kids := by
  cases hon : onlyB 6 i g r s keys.length kids.len
  · refine ⟨false, ?_⟩
    have HON := Lib.hid hon; clear hon
    intro ka kc a cap w hkw hn
    have ht := ht0.kept hkw hN0 (by simp)
    have hN : N ≤ w.heap.size := Nat.le_trans hN0 hkw.size
    have hfld := hn.fld
    obtain ⟨⟨k1, k2⟩, ⟨i1, i2⟩, ⟨g1, g2⟩, r1, s1⟩ := hn.fld
    have hlk1 : keys.length ≤ 140737488351232 := by have := hn.keys.2.1; omega
    have hlk2 : kids.len ≤ 140737488351232 := by have := hn.kids.2.1; omega
    obtain ⟨w0, hw0⟩ : ∃ w0, w0 = (w.alloc (.cells #[.int .i64 6, .int .i64 i, .int .i64 g, .float .f64 r, .string s, .slice ka keys.length kc, .slice a kids.len cap] 26)).alloc (.cells #[.int .i64 0, .int .i64 0, .int .i64 0, .float .f64 0, .string ⟨#[]⟩, .slice none 0 0, .slice none 0 0] 31) := ⟨_, rfl⟩
    have hK0 : Kept [] w w0 := by rw [hw0]; exact ((Kept.refl [] w).alloc _).alloc _
    have hs0 : w0.heap.size = w.heap.size + 2 := by rw [hw0]; simp
    have hX1 : w0.heap[w.heap.size]? = some (.cells #[.int .i64 6, .int .i64 i, .int .i64 g, .float .f64 r, .string s, .slice ka keys.length kc, .slice a kids.len cap] 26 (0, 0)) := by
      rw [hw0, heap_lt (by simp)]; exact heap_at rfl
    have hX2 : w0.heap[w.heap.size + 1]? = some (.cells #[.int .i64 0, .int .i64 0, .int .i64 0, .float .f64 0, .string ⟨#[]⟩, .slice none 0 0, .slice none 0 0] 31 (0, 0)) := by
      rw [hw0]; exact heap_at (by simp)
    have hS0 : w.heap.size + 1 < w0.heap.size := by omega
    have HN := Lib.hid hn; clear hn hs0
    go_enter Tryz.func24, Tryz.ntmps24
    go_wp2_with fail
    rw [← hw0]
    refine (onlywF 6 i g r s ka keys.length kc a kids.len cap w0 hfld hlk1 hlk2).mono ?_
    rintro e w1 ⟨rfl, hK1⟩
    rw [HON.out]
    have hK2 : Kept [] w w1 := Kept.trans hK0 hK1 (by simp) (by simp)
    have hX1' := (hK1.block w.heap.size (by omega) (by simp)).trans hX1
    have hX2' := (hK1.block (w.heap.size + 1) (by omega) (by simp)).trans hX2
    have hS1 : w.heap.size + 1 < w1.heap.size := Nat.lt_of_lt_of_le hS0 hK1.size
    have hS2 : w.heap.size < w1.heap.size := by omega
    obtain ⟨⟨c0, c1, c2, c3, c4, c5, c6⟩, _⟩ := seven hX1'
    obtain ⟨⟨e0, e1, e2, e3, e4, e5, e6⟩, p0, p1, p2, p3, p4, p5, p6⟩ := seven hX2'
    have hoff := cell_set_off
    have r0 := fun (X : World) (i j : Nat) (u : Value) => cell_set_other (show w.heap.size + 1 ≠ w.heap.size by omega) i j X u
    clear hw0 hK0 hX1 hX2 hS0 hK1
    have HX1 := Lib.hid hX1'; have HX2 := Lib.hid hX2'; clear hX1' hX2'
    go_wp2_with fail
    refine bodyPost_ret (v := .tuple #[.agg #[.int .i64 0, .int .i64 0, .int .i64 0, .float .f64 0, .string ⟨#[]⟩, .slice none 0 0, .slice none 0 0], .bool false]) (by simp [results, Tryz.results24, go_sem, hoff, e0, e1, e2, e3, e4, e5, e6]) rfl ?_
    exact ⟨foNo (kept7 hK2 (.inl (by omega)) _ _ _ _ _ _ _), _, (by first | rfl | (rw [FL.out]; done) | (rw [FL.out]; rfl))⟩
  have ho := onlyB_true.1 hon
  have HON := Lib.hid hon; clear hon
  have HO := Lib.hid ho; clear ho
  by_cases hs9 : s.size ≤ 140737488351232
  · obtain ⟨b, hB⟩ := nameabF s (by omega)
    refine ⟨b, ?_⟩
    have HB := Lib.hid hB; clear hB
    intro ka kc a cap w hkw hn
    have ht := ht0.kept hkw hN0 (by simp)
    have hN : N ≤ w.heap.size := Nat.le_trans hN0 hkw.size
    have hfld := hn.fld
    obtain ⟨⟨k1, k2⟩, ⟨i1, i2⟩, ⟨g1, g2⟩, r1, s1⟩ := hn.fld
    have hlk1 : keys.length ≤ 140737488351232 := by have := hn.keys.2.1; omega
    have hlk2 : kids.len ≤ 140737488351232 := by have := hn.kids.2.1; omega
    obtain ⟨w0, hw0⟩ : ∃ w0, w0 = (w.alloc (.cells #[.int .i64 6, .int .i64 i, .int .i64 g, .float .f64 r, .string s, .slice ka keys.length kc, .slice a kids.len cap] 26)).alloc (.cells #[.int .i64 0, .int .i64 0, .int .i64 0, .float .f64 0, .string ⟨#[]⟩, .slice none 0 0, .slice none 0 0] 31) := ⟨_, rfl⟩
    have hK0 : Kept [] w w0 := by rw [hw0]; exact ((Kept.refl [] w).alloc _).alloc _
    have hs0 : w0.heap.size = w.heap.size + 2 := by rw [hw0]; simp
    have hX1 : w0.heap[w.heap.size]? = some (.cells #[.int .i64 6, .int .i64 i, .int .i64 g, .float .f64 r, .string s, .slice ka keys.length kc, .slice a kids.len cap] 26 (0, 0)) := by
      rw [hw0, heap_lt (by simp)]; exact heap_at rfl
    have hX2 : w0.heap[w.heap.size + 1]? = some (.cells #[.int .i64 0, .int .i64 0, .int .i64 0, .float .f64 0, .string ⟨#[]⟩, .slice none 0 0, .slice none 0 0] 31 (0, 0)) := by
      rw [hw0]; exact heap_at (by simp)
    have hS0 : w.heap.size + 1 < w0.heap.size := by omega
    have HN := Lib.hid hn; clear hn hs0
    go_enter Tryz.func24, Tryz.ntmps24
    go_wp2_with fail
    rw [← hw0]
    refine (onlywF 6 i g r s ka keys.length kc a kids.len cap w0 hfld hlk1 hlk2).mono ?_
    rintro e w1 ⟨rfl, hK1⟩
    rw [HON.out]
    have hK2 : Kept [] w w1 := Kept.trans hK0 hK1 (by simp) (by simp)
    have hX1' := (hK1.block w.heap.size (by omega) (by simp)).trans hX1
    have hX2' := (hK1.block (w.heap.size + 1) (by omega) (by simp)).trans hX2
    have hS1 : w.heap.size + 1 < w1.heap.size := Nat.lt_of_lt_of_le hS0 hK1.size
    have hS2 : w.heap.size < w1.heap.size := by omega
    obtain ⟨⟨c0, c1, c2, c3, c4, c5, c6⟩, _⟩ := seven hX1'
    obtain ⟨⟨e0, e1, e2, e3, e4, e5, e6⟩, p0, p1, p2, p3, p4, p5, p6⟩ := seven hX2'
    have hoff := cell_set_off
    have r0 := fun (X : World) (i j : Nat) (u : Value) => cell_set_other (show w.heap.size + 1 ≠ w.heap.size by omega) i j X u
    clear hw0 hK0 hX1 hX2 hS0 hK1
    have HX1 := Lib.hid hX1'; have HX2 := Lib.hid hX2'; clear hX1' hX2'
    go_wp2_with fail
    go_region_with ((go_at_call 45; refine (HB.out _).mono ?_; rintro e w3 ⟨rfl, rfl⟩))
    all_goals go_wp2_with fail
    all_goals refine bodyPost_ret (v := .tuple #[.agg #[.int .i64 5, .int .i64 0, .int .i64 0, .float .f64 0, .string s, .slice none 0 0, .slice none 0 0], .bool b]) (by simp [results, Tryz.results24, go_sem, hoff, e0, e1, e2, e3, e4, e5, e6]) rfl ?_
    all_goals exact ⟨foLeaf (by repeat (first | with_reducible exact hK2 | with_reducible refine Kept.drew ?_ | with_reducible refine Kept.drewN ?_ _ | with_reducible refine Kept.setCell ?_ (.inl (by show w.heap.size ≤ w.heap.size + 1; omega)) _ | with_reducible refine Kept.alloc ?_ _)) (⟨⟨by omega, by omega⟩, ⟨by omega, by omega⟩, ⟨by omega, by omega⟩, by omega, s1⟩) (fun h => ⟨⟨HO.out, by omega, by omega, by omega, by omega, by omega, by omega⟩, onlyNil HO.out (by decide)⟩) (by decide), _, rfl⟩
  · exact ⟨true, fun ka kc a cap w hkw hn => absurd hn.fld.s hs9⟩
end Go.Proofs.YtfkecmlmnhbmoaaGreatDoor
namespace Go.Proofs.YtfkecmlmnhbmoaaGreatDoor
open Go.RowKit
set_option maxRecDepth 100000 in
set_option maxHeartbeats 8000000 in
theorem fo9F (N : Nat) (W0 : World) (ht0 : Tb N W0) (hN0 : N ≤ W0.heap.size) (i g : Int) (r : Nat) (s : ByteArray) (keys : List ByteArray) (kids : F) : FoF N W0 9 i g r s keys kids := by
  cases hon : onlyB 9 i g r s keys.length kids.len
  · refine ⟨false, ?_⟩
    have HON := Lib.hid hon; clear hon
    intro ka kc a cap w hkw hn
    have ht := ht0.kept hkw hN0 (by simp)
    have hN : N ≤ w.heap.size := Nat.le_trans hN0 hkw.size
    have hfld := hn.fld
    obtain ⟨⟨k1, k2⟩, ⟨i1, i2⟩, ⟨g1, g2⟩, r1, s1⟩ := hn.fld
    have hlk1 : keys.length ≤ 140737488351232 := by have := hn.keys.2.1; omega
    have hlk2 : kids.len ≤ 140737488351232 := by have := hn.kids.2.1; omega
    obtain ⟨w0, hw0⟩ : ∃ w0, w0 = (w.alloc (.cells #[.int .i64 9, .int .i64 i, .int .i64 g, .float .f64 r, .string s, .slice ka keys.length kc, .slice a kids.len cap] 26)).alloc (.cells #[.int .i64 0, .int .i64 0, .int .i64 0, .float .f64 0, .string ⟨#[]⟩, .slice none 0 0, .slice none 0 0] 31) := ⟨_, rfl⟩
    have hK0 : Kept [] w w0 := by rw [hw0]; exact ((Kept.refl [] w).alloc _).alloc _
    have hs0 : w0.heap.size = w.heap.size + 2 := by rw [hw0]; simp
    have hX1 : w0.heap[w.heap.size]? = some (.cells #[.int .i64 9, .int .i64 i, .int .i64 g, .float .f64 r, .string s, .slice ka keys.length kc, .slice a kids.len cap] 26 (0, 0)) := by
      rw [hw0, heap_lt (by simp)]; exact heap_at rfl
    have hX2 : w0.heap[w.heap.size + 1]? = some (.cells #[.int .i64 0, .int .i64 0, .int .i64 0, .float .f64 0, .string ⟨#[]⟩, .slice none 0 0, .slice none 0 0] 31 (0, 0)) := by
      rw [hw0]; exact heap_at (by simp)
    have hS0 : w.heap.size + 1 < w0.heap.size := by omega
    have HN := Lib.hid hn; clear hn hs0
    go_enter Tryz.func24, Tryz.ntmps24
    go_wp2_with fail
    rw [← hw0]
    refine (onlywF 9 i g r s ka keys.length kc a kids.len cap w0 hfld hlk1 hlk2).mono ?_
    rintro e w1 ⟨rfl, hK1⟩
    rw [HON.out]
    have hK2 : Kept [] w w1 := Kept.trans hK0 hK1 (by simp) (by simp)
    have hX1' := (hK1.block w.heap.size (by omega) (by simp)).trans hX1
    have hX2' := (hK1.block (w.heap.size + 1) (by omega) (by simp)).trans hX2
    have hS1 : w.heap.size + 1 < w1.heap.size := Nat.lt_of_lt_of_le hS0 hK1.size
    have hS2 : w.heap.size < w1.heap.size := by omega
    obtain ⟨⟨c0, c1, c2, c3, c4, c5, c6⟩, _⟩ := seven hX1'
    obtain ⟨⟨e0, e1, e2, e3, e4, e5, e6⟩, p0, p1, p2, p3, p4, p5, p6⟩ := seven hX2'
    have hoff := cell_set_off
    have r0 := fun (X : World) (i j : Nat) (u : Value) => cell_set_other (show w.heap.size + 1 ≠ w.heap.size by omega) i j X u
    clear hw0 hK0 hX1 hX2 hS0 hK1
    have HX1 := Lib.hid hX1'; have HX2 := Lib.hid hX2'; clear hX1' hX2'
    go_wp2_with fail
    refine bodyPost_ret (v := .tuple #[.agg #[.int .i64 0, .int .i64 0, .int .i64 0, .float .f64 0, .string ⟨#[]⟩, .slice none 0 0, .slice none 0 0], .bool false]) (by simp [results, Tryz.results24, go_sem, hoff, e0, e1, e2, e3, e4, e5, e6]) rfl ?_
    exact ⟨foNo (kept7 hK2 (.inl (by omega)) _ _ _ _ _ _ _), _, (by first | rfl | (rw [FL.out]; done) | (rw [FL.out]; rfl))⟩
  have ho := onlyB_true.1 hon
  have HON := Lib.hid hon; clear hon
  have HO := Lib.hid ho; clear ho
  have hcase : (¬ 0 < i) ∨ (0 < i ∧ ¬ i < 2147483648) ∨ (0 < i ∧ i < 2147483648 ∧ ¬ 0 ≤ g) ∨ (0 < i ∧ i < 2147483648 ∧ 0 ≤ g) := by omega
  rcases hcase with h1 | ⟨h1, h2⟩ | ⟨h1, h2, h3⟩ | ⟨h1, h2, h3⟩
  · have z1 : decide (0 < i) = false := by simp; omega
    refine ⟨false, ?_⟩
    intro ka kc a cap w hkw hn
    have ht := ht0.kept hkw hN0 (by simp)
    have hN : N ≤ w.heap.size := Nat.le_trans hN0 hkw.size
    have hfld := hn.fld
    obtain ⟨⟨k1, k2⟩, ⟨i1, i2⟩, ⟨g1, g2⟩, r1, s1⟩ := hn.fld
    have hlk1 : keys.length ≤ 140737488351232 := by have := hn.keys.2.1; omega
    have hlk2 : kids.len ≤ 140737488351232 := by have := hn.kids.2.1; omega
    obtain ⟨w0, hw0⟩ : ∃ w0, w0 = (w.alloc (.cells #[.int .i64 9, .int .i64 i, .int .i64 g, .float .f64 r, .string s, .slice ka keys.length kc, .slice a kids.len cap] 26)).alloc (.cells #[.int .i64 0, .int .i64 0, .int .i64 0, .float .f64 0, .string ⟨#[]⟩, .slice none 0 0, .slice none 0 0] 31) := ⟨_, rfl⟩
    have hK0 : Kept [] w w0 := by rw [hw0]; exact ((Kept.refl [] w).alloc _).alloc _
    have hs0 : w0.heap.size = w.heap.size + 2 := by rw [hw0]; simp
    have hX1 : w0.heap[w.heap.size]? = some (.cells #[.int .i64 9, .int .i64 i, .int .i64 g, .float .f64 r, .string s, .slice ka keys.length kc, .slice a kids.len cap] 26 (0, 0)) := by
      rw [hw0, heap_lt (by simp)]; exact heap_at rfl
    have hX2 : w0.heap[w.heap.size + 1]? = some (.cells #[.int .i64 0, .int .i64 0, .int .i64 0, .float .f64 0, .string ⟨#[]⟩, .slice none 0 0, .slice none 0 0] 31 (0, 0)) := by
      rw [hw0]; exact heap_at (by simp)
    have hS0 : w.heap.size + 1 < w0.heap.size := by omega
    have HN := Lib.hid hn; clear hn hs0
    go_enter Tryz.func24, Tryz.ntmps24
    go_wp2_with fail
    rw [← hw0]
    refine (onlywF 9 i g r s ka keys.length kc a kids.len cap w0 hfld hlk1 hlk2).mono ?_
    rintro e w1 ⟨rfl, hK1⟩
    rw [HON.out]
    have hK2 : Kept [] w w1 := Kept.trans hK0 hK1 (by simp) (by simp)
    have hX1' := (hK1.block w.heap.size (by omega) (by simp)).trans hX1
    have hX2' := (hK1.block (w.heap.size + 1) (by omega) (by simp)).trans hX2
    have hS1 : w.heap.size + 1 < w1.heap.size := Nat.lt_of_lt_of_le hS0 hK1.size
    have hS2 : w.heap.size < w1.heap.size := by omega
    obtain ⟨⟨c0, c1, c2, c3, c4, c5, c6⟩, _⟩ := seven hX1'
    obtain ⟨⟨e0, e1, e2, e3, e4, e5, e6⟩, p0, p1, p2, p3, p4, p5, p6⟩ := seven hX2'
    have hoff := cell_set_off
    have r0 := fun (X : World) (i j : Nat) (u : Value) => cell_set_other (show w.heap.size + 1 ≠ w.heap.size by omega) i j X u
    clear hw0 hK0 hX1 hX2 hS0 hK1
    have HX1 := Lib.hid hX1'; have HX2 := Lib.hid hX2'; clear hX1' hX2'
    go_wp2_with fail
    go_region
    go_wp2_with fail
    refine bodyPost_ret (v := .tuple #[.agg #[.int .i64 8, .int .i64 i, .int .i64 g, .float .f64 0, .string ⟨#[]⟩, .slice none 0 0, .slice none 0 0], .bool false]) (by simp [results, Tryz.results24, go_sem, hoff, e0, e1, e2, e3, e4, e5, e6]) rfl ?_
    exact ⟨foLeaf (by repeat (first | with_reducible exact hK2 | with_reducible refine Kept.drew ?_ | with_reducible refine Kept.drewN ?_ _ | with_reducible refine Kept.setCell ?_ (.inl (by show w.heap.size ≤ w.heap.size + 1; omega)) _ | with_reducible refine Kept.alloc ?_ _)) (⟨⟨by omega, by omega⟩, ⟨i1, i2⟩, ⟨g1, g2⟩, by omega, Nat.zero_le _⟩) (fun _ => ⟨⟨HO.out, by omega, by omega, by omega, by omega, by omega, by omega⟩, onlyNil HO.out (by decide)⟩) (by decide), _, rfl⟩
  · have z1 : decide (0 < i) = true := by simp; omega
    have z2 : decide (i < 2147483648) = false := by simp; omega
    refine ⟨false, ?_⟩
    intro ka kc a cap w hkw hn
    have ht := ht0.kept hkw hN0 (by simp)
    have hN : N ≤ w.heap.size := Nat.le_trans hN0 hkw.size
    have hfld := hn.fld
    obtain ⟨⟨k1, k2⟩, ⟨i1, i2⟩, ⟨g1, g2⟩, r1, s1⟩ := hn.fld
    have hlk1 : keys.length ≤ 140737488351232 := by have := hn.keys.2.1; omega
    have hlk2 : kids.len ≤ 140737488351232 := by have := hn.kids.2.1; omega
    obtain ⟨w0, hw0⟩ : ∃ w0, w0 = (w.alloc (.cells #[.int .i64 9, .int .i64 i, .int .i64 g, .float .f64 r, .string s, .slice ka keys.length kc, .slice a kids.len cap] 26)).alloc (.cells #[.int .i64 0, .int .i64 0, .int .i64 0, .float .f64 0, .string ⟨#[]⟩, .slice none 0 0, .slice none 0 0] 31) := ⟨_, rfl⟩
    have hK0 : Kept [] w w0 := by rw [hw0]; exact ((Kept.refl [] w).alloc _).alloc _
    have hs0 : w0.heap.size = w.heap.size + 2 := by rw [hw0]; simp
    have hX1 : w0.heap[w.heap.size]? = some (.cells #[.int .i64 9, .int .i64 i, .int .i64 g, .float .f64 r, .string s, .slice ka keys.length kc, .slice a kids.len cap] 26 (0, 0)) := by
      rw [hw0, heap_lt (by simp)]; exact heap_at rfl
    have hX2 : w0.heap[w.heap.size + 1]? = some (.cells #[.int .i64 0, .int .i64 0, .int .i64 0, .float .f64 0, .string ⟨#[]⟩, .slice none 0 0, .slice none 0 0] 31 (0, 0)) := by
      rw [hw0]; exact heap_at (by simp)
    have hS0 : w.heap.size + 1 < w0.heap.size := by omega
    have HN := Lib.hid hn; clear hn hs0
    go_enter Tryz.func24, Tryz.ntmps24
    go_wp2_with fail
    rw [← hw0]
    refine (onlywF 9 i g r s ka keys.length kc a kids.len cap w0 hfld hlk1 hlk2).mono ?_
    rintro e w1 ⟨rfl, hK1⟩
    rw [HON.out]
    have hK2 : Kept [] w w1 := Kept.trans hK0 hK1 (by simp) (by simp)
    have hX1' := (hK1.block w.heap.size (by omega) (by simp)).trans hX1
    have hX2' := (hK1.block (w.heap.size + 1) (by omega) (by simp)).trans hX2
    have hS1 : w.heap.size + 1 < w1.heap.size := Nat.lt_of_lt_of_le hS0 hK1.size
    have hS2 : w.heap.size < w1.heap.size := by omega
    obtain ⟨⟨c0, c1, c2, c3, c4, c5, c6⟩, _⟩ := seven hX1'
    obtain ⟨⟨e0, e1, e2, e3, e4, e5, e6⟩, p0, p1, p2, p3, p4, p5, p6⟩ := seven hX2'
    have hoff := cell_set_off
    have r0 := fun (X : World) (i j : Nat) (u : Value) => cell_set_other (show w.heap.size + 1 ≠ w.heap.size by omega) i j X u
    clear hw0 hK0 hX1 hX2 hS0 hK1
    have HX1 := Lib.hid hX1'; have HX2 := Lib.hid hX2'; clear hX1' hX2'
    go_wp2_with fail
    go_region
    go_wp2_with fail
    refine bodyPost_ret (v := .tuple #[.agg #[.int .i64 8, .int .i64 i, .int .i64 g, .float .f64 0, .string ⟨#[]⟩, .slice none 0 0, .slice none 0 0], .bool false]) (by simp [results, Tryz.results24, go_sem, hoff, e0, e1, e2, e3, e4, e5, e6]) rfl ?_
    exact ⟨foLeaf (by repeat (first | with_reducible exact hK2 | with_reducible refine Kept.drew ?_ | with_reducible refine Kept.drewN ?_ _ | with_reducible refine Kept.setCell ?_ (.inl (by show w.heap.size ≤ w.heap.size + 1; omega)) _ | with_reducible refine Kept.alloc ?_ _)) (⟨⟨by omega, by omega⟩, ⟨i1, i2⟩, ⟨g1, g2⟩, by omega, Nat.zero_le _⟩) (fun _ => ⟨⟨HO.out, by omega, by omega, by omega, by omega, by omega, by omega⟩, onlyNil HO.out (by decide)⟩) (by decide), _, rfl⟩
  · have z1 : decide (0 < i) = true := by simp; omega
    have z2 : decide (i < 2147483648) = true := by simp; omega
    have z3 : decide (0 ≤ g) = false := by simp; omega
    refine ⟨false, ?_⟩
    intro ka kc a cap w hkw hn
    have ht := ht0.kept hkw hN0 (by simp)
    have hN : N ≤ w.heap.size := Nat.le_trans hN0 hkw.size
    have hfld := hn.fld
    obtain ⟨⟨k1, k2⟩, ⟨i1, i2⟩, ⟨g1, g2⟩, r1, s1⟩ := hn.fld
    have hlk1 : keys.length ≤ 140737488351232 := by have := hn.keys.2.1; omega
    have hlk2 : kids.len ≤ 140737488351232 := by have := hn.kids.2.1; omega
    obtain ⟨w0, hw0⟩ : ∃ w0, w0 = (w.alloc (.cells #[.int .i64 9, .int .i64 i, .int .i64 g, .float .f64 r, .string s, .slice ka keys.length kc, .slice a kids.len cap] 26)).alloc (.cells #[.int .i64 0, .int .i64 0, .int .i64 0, .float .f64 0, .string ⟨#[]⟩, .slice none 0 0, .slice none 0 0] 31) := ⟨_, rfl⟩
    have hK0 : Kept [] w w0 := by rw [hw0]; exact ((Kept.refl [] w).alloc _).alloc _
    have hs0 : w0.heap.size = w.heap.size + 2 := by rw [hw0]; simp
    have hX1 : w0.heap[w.heap.size]? = some (.cells #[.int .i64 9, .int .i64 i, .int .i64 g, .float .f64 r, .string s, .slice ka keys.length kc, .slice a kids.len cap] 26 (0, 0)) := by
      rw [hw0, heap_lt (by simp)]; exact heap_at rfl
    have hX2 : w0.heap[w.heap.size + 1]? = some (.cells #[.int .i64 0, .int .i64 0, .int .i64 0, .float .f64 0, .string ⟨#[]⟩, .slice none 0 0, .slice none 0 0] 31 (0, 0)) := by
      rw [hw0]; exact heap_at (by simp)
    have hS0 : w.heap.size + 1 < w0.heap.size := by omega
    have HN := Lib.hid hn; clear hn hs0
    go_enter Tryz.func24, Tryz.ntmps24
    go_wp2_with fail
    rw [← hw0]
    refine (onlywF 9 i g r s ka keys.length kc a kids.len cap w0 hfld hlk1 hlk2).mono ?_
    rintro e w1 ⟨rfl, hK1⟩
    rw [HON.out]
    have hK2 : Kept [] w w1 := Kept.trans hK0 hK1 (by simp) (by simp)
    have hX1' := (hK1.block w.heap.size (by omega) (by simp)).trans hX1
    have hX2' := (hK1.block (w.heap.size + 1) (by omega) (by simp)).trans hX2
    have hS1 : w.heap.size + 1 < w1.heap.size := Nat.lt_of_lt_of_le hS0 hK1.size
    have hS2 : w.heap.size < w1.heap.size := by omega
    obtain ⟨⟨c0, c1, c2, c3, c4, c5, c6⟩, _⟩ := seven hX1'
    obtain ⟨⟨e0, e1, e2, e3, e4, e5, e6⟩, p0, p1, p2, p3, p4, p5, p6⟩ := seven hX2'
    have hoff := cell_set_off
    have r0 := fun (X : World) (i j : Nat) (u : Value) => cell_set_other (show w.heap.size + 1 ≠ w.heap.size by omega) i j X u
    clear hw0 hK0 hX1 hX2 hS0 hK1
    have HX1 := Lib.hid hX1'; have HX2 := Lib.hid hX2'; clear hX1' hX2'
    go_wp2_with fail
    go_region
    go_wp2_with fail
    refine bodyPost_ret (v := .tuple #[.agg #[.int .i64 8, .int .i64 i, .int .i64 g, .float .f64 0, .string ⟨#[]⟩, .slice none 0 0, .slice none 0 0], .bool false]) (by simp [results, Tryz.results24, go_sem, hoff, e0, e1, e2, e3, e4, e5, e6]) rfl ?_
    exact ⟨foLeaf (by repeat (first | with_reducible exact hK2 | with_reducible refine Kept.drew ?_ | with_reducible refine Kept.drewN ?_ _ | with_reducible refine Kept.setCell ?_ (.inl (by show w.heap.size ≤ w.heap.size + 1; omega)) _ | with_reducible refine Kept.alloc ?_ _)) (⟨⟨by omega, by omega⟩, ⟨i1, i2⟩, ⟨g1, g2⟩, by omega, Nat.zero_le _⟩) (fun _ => ⟨⟨HO.out, by omega, by omega, by omega, by omega, by omega, by omega⟩, onlyNil HO.out (by decide)⟩) (by decide), _, rfl⟩
  · have z1 : decide (0 < i) = true := by simp; omega
    have z2 : decide (i < 2147483648) = true := by simp; omega
    have z3 : decide (0 ≤ g) = true := by simp; omega
    refine ⟨decide (g ≤ 65535), ?_⟩
    intro ka kc a cap w hkw hn
    have ht := ht0.kept hkw hN0 (by simp)
    have hN : N ≤ w.heap.size := Nat.le_trans hN0 hkw.size
    have hfld := hn.fld
    obtain ⟨⟨k1, k2⟩, ⟨i1, i2⟩, ⟨g1, g2⟩, r1, s1⟩ := hn.fld
    have hlk1 : keys.length ≤ 140737488351232 := by have := hn.keys.2.1; omega
    have hlk2 : kids.len ≤ 140737488351232 := by have := hn.kids.2.1; omega
    obtain ⟨w0, hw0⟩ : ∃ w0, w0 = (w.alloc (.cells #[.int .i64 9, .int .i64 i, .int .i64 g, .float .f64 r, .string s, .slice ka keys.length kc, .slice a kids.len cap] 26)).alloc (.cells #[.int .i64 0, .int .i64 0, .int .i64 0, .float .f64 0, .string ⟨#[]⟩, .slice none 0 0, .slice none 0 0] 31) := ⟨_, rfl⟩
    have hK0 : Kept [] w w0 := by rw [hw0]; exact ((Kept.refl [] w).alloc _).alloc _
    have hs0 : w0.heap.size = w.heap.size + 2 := by rw [hw0]; simp
    have hX1 : w0.heap[w.heap.size]? = some (.cells #[.int .i64 9, .int .i64 i, .int .i64 g, .float .f64 r, .string s, .slice ka keys.length kc, .slice a kids.len cap] 26 (0, 0)) := by
      rw [hw0, heap_lt (by simp)]; exact heap_at rfl
    have hX2 : w0.heap[w.heap.size + 1]? = some (.cells #[.int .i64 0, .int .i64 0, .int .i64 0, .float .f64 0, .string ⟨#[]⟩, .slice none 0 0, .slice none 0 0] 31 (0, 0)) := by
      rw [hw0]; exact heap_at (by simp)
    have hS0 : w.heap.size + 1 < w0.heap.size := by omega
    have HN := Lib.hid hn; clear hn hs0
    go_enter Tryz.func24, Tryz.ntmps24
    go_wp2_with fail
    rw [← hw0]
    refine (onlywF 9 i g r s ka keys.length kc a kids.len cap w0 hfld hlk1 hlk2).mono ?_
    rintro e w1 ⟨rfl, hK1⟩
    rw [HON.out]
    have hK2 : Kept [] w w1 := Kept.trans hK0 hK1 (by simp) (by simp)
    have hX1' := (hK1.block w.heap.size (by omega) (by simp)).trans hX1
    have hX2' := (hK1.block (w.heap.size + 1) (by omega) (by simp)).trans hX2
    have hS1 : w.heap.size + 1 < w1.heap.size := Nat.lt_of_lt_of_le hS0 hK1.size
    have hS2 : w.heap.size < w1.heap.size := by omega
    obtain ⟨⟨c0, c1, c2, c3, c4, c5, c6⟩, _⟩ := seven hX1'
    obtain ⟨⟨e0, e1, e2, e3, e4, e5, e6⟩, p0, p1, p2, p3, p4, p5, p6⟩ := seven hX2'
    have hoff := cell_set_off
    have r0 := fun (X : World) (i j : Nat) (u : Value) => cell_set_other (show w.heap.size + 1 ≠ w.heap.size by omega) i j X u
    clear hw0 hK0 hX1 hX2 hS0 hK1
    have HX1 := Lib.hid hX1'; have HX2 := Lib.hid hX2'; clear hX1' hX2'
    go_wp2_with fail
    go_region
    go_wp2_with fail
    refine bodyPost_ret (v := .tuple #[.agg #[.int .i64 8, .int .i64 i, .int .i64 g, .float .f64 0, .string ⟨#[]⟩, .slice none 0 0, .slice none 0 0], .bool (decide (g ≤ 65535))]) (by simp [results, Tryz.results24, go_sem, hoff, e0, e1, e2, e3, e4, e5, e6]) rfl ?_
    exact ⟨foLeaf (by repeat (first | with_reducible exact hK2 | with_reducible refine Kept.drew ?_ | with_reducible refine Kept.drewN ?_ _ | with_reducible refine Kept.setCell ?_ (.inl (by show w.heap.size ≤ w.heap.size + 1; omega)) _ | with_reducible refine Kept.alloc ?_ _)) (⟨⟨by omega, by omega⟩, ⟨i1, i2⟩, ⟨g1, g2⟩, by omega, Nat.zero_le _⟩) (fun _ => ⟨⟨HO.out, by omega, by omega, by omega, by omega, by omega, by omega⟩, onlyNil HO.out (by decide)⟩) (by decide), _, rfl⟩
end Go.Proofs.YtfkecmlmnhbmoaaGreatDoor
namespace Go.Proofs.YtfkecmlmnhbmoaaGreatDoor
open Go.RowKit
set_option maxRecDepth 100000 in
set_option maxHeartbeats 8000000 in
theorem fo7F (N : Nat) (W0 : World) (ht0 : Tb N W0) (hN0 : N ≤ W0.heap.size) (i g : Int) (r : Nat) (s : ByteArray) (keys : List ByteArray) (kids : F) (ih : AllN (FoF N W0) kids) : FoF N W0 7 i g r s keys kids := by
  obtain ⟨bk, hFK⟩ := fkidsF N W0 ht0 hN0 kids ih
  have HFK := Lib.hid hFK; clear hFK
  cases hon : onlyB 7 i g r s keys.length kids.len
  · refine ⟨false, ?_⟩
    have HON := Lib.hid hon; clear hon
    intro ka kc a cap w hkw hn
    have ht := ht0.kept hkw hN0 (by simp)
    have hN : N ≤ w.heap.size := Nat.le_trans hN0 hkw.size
    have hfld := hn.fld
    obtain ⟨⟨k1, k2⟩, ⟨i1, i2⟩, ⟨g1, g2⟩, r1, s1⟩ := hn.fld
    have hlk1 : keys.length ≤ 140737488351232 := by have := hn.keys.2.1; omega
    have hlk2 : kids.len ≤ 140737488351232 := by have := hn.kids.2.1; omega
    obtain ⟨w0, hw0⟩ : ∃ w0, w0 = (w.alloc (.cells #[.int .i64 7, .int .i64 i, .int .i64 g, .float .f64 r, .string s, .slice ka keys.length kc, .slice a kids.len cap] 26)).alloc (.cells #[.int .i64 0, .int .i64 0, .int .i64 0, .float .f64 0, .string ⟨#[]⟩, .slice none 0 0, .slice none 0 0] 31) := ⟨_, rfl⟩
    have hK0 : Kept [] w w0 := by rw [hw0]; exact ((Kept.refl [] w).alloc _).alloc _
    have hs0 : w0.heap.size = w.heap.size + 2 := by rw [hw0]; simp
    have hX1 : w0.heap[w.heap.size]? = some (.cells #[.int .i64 7, .int .i64 i, .int .i64 g, .float .f64 r, .string s, .slice ka keys.length kc, .slice a kids.len cap] 26 (0, 0)) := by
      rw [hw0, heap_lt (by simp)]; exact heap_at rfl
    have hX2 : w0.heap[w.heap.size + 1]? = some (.cells #[.int .i64 0, .int .i64 0, .int .i64 0, .float .f64 0, .string ⟨#[]⟩, .slice none 0 0, .slice none 0 0] 31 (0, 0)) := by
      rw [hw0]; exact heap_at (by simp)
    have hS0 : w.heap.size + 1 < w0.heap.size := by omega
    have HN := Lib.hid hn; clear hn hs0
    go_enter Tryz.func24, Tryz.ntmps24
    go_wp2_with fail
    rw [← hw0]
    refine (onlywF 7 i g r s ka keys.length kc a kids.len cap w0 hfld hlk1 hlk2).mono ?_
    rintro e w1 ⟨rfl, hK1⟩
    rw [HON.out]
    have hK2 : Kept [] w w1 := Kept.trans hK0 hK1 (by simp) (by simp)
    have hX1' := (hK1.block w.heap.size (by omega) (by simp)).trans hX1
    have hX2' := (hK1.block (w.heap.size + 1) (by omega) (by simp)).trans hX2
    have hS1 : w.heap.size + 1 < w1.heap.size := Nat.lt_of_lt_of_le hS0 hK1.size
    have hS2 : w.heap.size < w1.heap.size := by omega
    obtain ⟨⟨c0, c1, c2, c3, c4, c5, c6⟩, _⟩ := seven hX1'
    obtain ⟨⟨e0, e1, e2, e3, e4, e5, e6⟩, p0, p1, p2, p3, p4, p5, p6⟩ := seven hX2'
    have hoff := cell_set_off
    have r0 := fun (X : World) (i j : Nat) (u : Value) => cell_set_other (show w.heap.size + 1 ≠ w.heap.size by omega) i j X u
    clear hw0 hK0 hX1 hX2 hS0 hK1
    have HX1 := Lib.hid hX1'; have HX2 := Lib.hid hX2'; clear hX1' hX2'
    go_wp2_with fail
    refine bodyPost_ret (v := .tuple #[.agg #[.int .i64 0, .int .i64 0, .int .i64 0, .float .f64 0, .string ⟨#[]⟩, .slice none 0 0, .slice none 0 0], .bool false]) (by simp [results, Tryz.results24, go_sem, hoff, e0, e1, e2, e3, e4, e5, e6]) rfl ?_
    exact ⟨foNo (kept7 hK2 (.inl (by omega)) _ _ _ _ _ _ _), _, (by first | rfl | (rw [FL.out]; done) | (rw [FL.out]; rfl))⟩
  have ho := onlyB_true.1 hon
  have HON := Lib.hid hon; clear hon
  have HO := Lib.hid ho; clear ho
  refine ⟨bk, ?_⟩
  intro ka kc a cap w hkw hn
  have ht := ht0.kept hkw hN0 (by simp)
  have hN : N ≤ w.heap.size := Nat.le_trans hN0 hkw.size
  have hfld := hn.fld
  obtain ⟨⟨k1, k2⟩, ⟨i1, i2⟩, ⟨g1, g2⟩, r1, s1⟩ := hn.fld
  have hlk1 : keys.length ≤ 140737488351232 := by have := hn.keys.2.1; omega
  have hlk2 : kids.len ≤ 140737488351232 := by have := hn.kids.2.1; omega
  obtain ⟨w0, hw0⟩ : ∃ w0, w0 = (w.alloc (.cells #[.int .i64 7, .int .i64 i, .int .i64 g, .float .f64 r, .string s, .slice ka keys.length kc, .slice a kids.len cap] 26)).alloc (.cells #[.int .i64 0, .int .i64 0, .int .i64 0, .float .f64 0, .string ⟨#[]⟩, .slice none 0 0, .slice none 0 0] 31) := ⟨_, rfl⟩
  have hK0 : Kept [] w w0 := by rw [hw0]; exact ((Kept.refl [] w).alloc _).alloc _
  have hs0 : w0.heap.size = w.heap.size + 2 := by rw [hw0]; simp
  have hX1 : w0.heap[w.heap.size]? = some (.cells #[.int .i64 7, .int .i64 i, .int .i64 g, .float .f64 r, .string s, .slice ka keys.length kc, .slice a kids.len cap] 26 (0, 0)) := by
    rw [hw0, heap_lt (by simp)]; exact heap_at rfl
  have hX2 : w0.heap[w.heap.size + 1]? = some (.cells #[.int .i64 0, .int .i64 0, .int .i64 0, .float .f64 0, .string ⟨#[]⟩, .slice none 0 0, .slice none 0 0] 31 (0, 0)) := by
    rw [hw0]; exact heap_at (by simp)
  have hS0 : w.heap.size + 1 < w0.heap.size := by omega
  have HN := Lib.hid hn; clear hn hs0
  go_enter Tryz.func24, Tryz.ntmps24
  go_wp2_with fail
  rw [← hw0]
  refine (onlywF 7 i g r s ka keys.length kc a kids.len cap w0 hfld hlk1 hlk2).mono ?_
  rintro e w1 ⟨rfl, hK1⟩
  rw [HON.out]
  have hK2 : Kept [] w w1 := Kept.trans hK0 hK1 (by simp) (by simp)
  have hX1' := (hK1.block w.heap.size (by omega) (by simp)).trans hX1
  have hX2' := (hK1.block (w.heap.size + 1) (by omega) (by simp)).trans hX2
  have hS1 : w.heap.size + 1 < w1.heap.size := Nat.lt_of_lt_of_le hS0 hK1.size
  have hS2 : w.heap.size < w1.heap.size := by omega
  obtain ⟨⟨c0, c1, c2, c3, c4, c5, c6⟩, _⟩ := seven hX1'
  obtain ⟨⟨e0, e1, e2, e3, e4, e5, e6⟩, p0, p1, p2, p3, p4, p5, p6⟩ := seven hX2'
  have hoff := cell_set_off
  have r0 := fun (X : World) (i j : Nat) (u : Value) => cell_set_other (show w.heap.size + 1 ≠ w.heap.size by omega) i j X u
  clear hw0 hK0 hX1 hX2 hS0 hK1
  have HX1 := Lib.hid hX1'; have HX2 := Lib.hid hX2'; clear hX1' hX2'
  have hNw : N ≤ w1.heap.size := Nat.le_trans hN hK2.size
  have hn1 := HN.out.kept hK2 (ltk hN (by simp))
  have HN1 := Lib.hid hn1; clear hn1
  go_wp2_with fail
  refine (HFK.out 6 none 0 0 7 i g r s keys ka kc a cap w1 (Kept.trans hkw hK2 (by simp) (by simp)) HN1.out).mono ?_
  rintro e w3 ⟨⟨hK3, k3, i3, g3, r3, s3, ka3, nk3, kc3, a3, nd3, cap3, b3, rfl, hb3⟩, v9, hv9⟩
  obtain rfl : b3 = bk := flag_eq hv9
  clear hv9
  have hX2'' := (hK3.block (w.heap.size + 1) hS1 (by simp)).trans HX2.out
  clear c0 c1 c2 c3 c4 c5 c6 e0 e1 e2 e3 e4 e5 e6 p0 p1 p2 p3 p4 p5 p6 r0
  obtain ⟨⟨e0, e1, e2, e3, e4, e5, e6⟩, p0, p1, p2, p3, p4, p5, p6⟩ := seven hX2''
  clear hX2''
  have HB3 := Lib.hid hb3; clear hb3
  go_wp2_with fail
  refine bodyPost_ret (v := .tuple #[.agg #[.int .i64 k3, .int .i64 i3, .int .i64 g3, .float .f64 r3, .string s3, .slice ka3 nk3 kc3, .slice a3 nd3 cap3], .bool b3]) (by simp [results, Tryz.results24, go_sem, hoff, e0, e1, e2, e3, e4, e5, e6]) rfl ?_
  exact ⟨foKids (keys0 := []) hN hK2 hS1 hK3 HB3.out.1 HB3.out.2 (fun _ => ⟨HO.out, by omega, by omega, by omega, by omega, by omega, by omega⟩) ⟨by decide, by omega, by omega⟩ ⟨⟨by simp, by simp, fun i hi => by simp at hi⟩, fun h => by omega⟩, _, rfl⟩
end Go.Proofs.YtfkecmlmnhbmoaaGreatDoor
namespace Go.Proofs.YtfkecmlmnhbmoaaGreatDoor
open Go.RowKit

def k8R (T n : Nat) (bk : Bool) : Bool := if T < n then false else bk
noncomputable def nmB (s : ByteArray) : Bool := if h : s.size ≤ 140737488355000 then Classical.choose (nameabF s h) else true
noncomputable def sgB (s : ByteArray) : Bool := if h : s.size ≤ 140737488355000 then Classical.choose (signedwF s h) else true
theorem nmB_is {s : ByteArray} (h : s.size ≤ 140737488355000) (w : World) : Calls Tryz.prog 45 #[.string s] w fun e w' => e = .returned (.bool (nmB s)) ∧ w = w' := by
  unfold nmB
  rw [dif_pos h]
  exact Classical.choose_spec (nameabF s h) w
theorem sgB_is {s : ByteArray} (h : s.size ≤ 140737488355000) (w : World) : Calls Tryz.prog 47 #[.string s] w fun e w' => e = .returned (.bool (sgB s)) ∧ w = w' := by
  unfold sgB
  rw [dif_pos h]
  exact Classical.choose_spec (signedwF s h) w
noncomputable def k8B (keys : List ByteArray) (j : Nat) : Bool := if h : j < keys.length then (nmB (keys[j]'h) && !(sgB (keys[j]'h)) && (if h2 : 0 < j then !(keyGe (keys[j - 1]'(by omega)) (keys[j]'h)) else true)) else false
theorem k8_zero {keys : List ByteArray} (h : 0 < keys.length) : k8B keys 0 = (nmB (keys[0]'h) && !(sgB (keys[0]'h))) := by
  unfold k8B
  rw [dif_pos h, dif_neg (by decide), Bool.and_true]
theorem k8_succ {keys : List ByteArray} {m : Nat} (h : m + 1 < keys.length) : k8B keys (m + 1) = (nmB (keys[m + 1]'h) && !(sgB (keys[m + 1]'h)) && !(keyGe (keys[m]'(by omega)) (keys[m + 1]'h))) := by
  unfold k8B
  rw [dif_pos h, dif_pos (by omega)]
  rfl
theorem k8_end {keys : List ByteArray} {j : Nat} (h : ¬ j < keys.length) : k8B keys j = false := dif_neg h
noncomputable def k8F (keys : List ByteArray) (j : Nat) : Option Nat := if k8B keys j = true then some (j + 1) else none
theorem k8_ends (keys : List ByteArray) : ∃ T, Tr (k8F keys) 0 T := by
  obtain ⟨T, h1, _⟩ := Tr.ends (f := k8F keys) (fun q => keys.length - q) (fun _ => True) (fun a b h e => by
    unfold k8F at e
    split at e
    · rename_i hk
      have hl : a < keys.length := by
        by_cases hl : a < keys.length
        · exact hl
        · rw [k8_end hl] at hk; cases hk
      cases e; exact ⟨trivial, by omega⟩
    · cases e) _ 0 (Nat.le_refl _) trivial
  exact ⟨T, h1⟩
set_option maxRecDepth 100000 in
set_option maxHeartbeats 8000000 in
theorem fo8F (N : Nat) (W0 : World) (ht0 : Tb N W0) (hN0 : N ≤ W0.heap.size) (i g : Int) (r : Nat) (s : ByteArray) (keys : List ByteArray) (kids : F) (ih : AllN (FoF N W0) kids) : FoF N W0 8 i g r s keys kids := by
  obtain ⟨bk, hFK⟩ := fkidsF N W0 ht0 hN0 kids ih
  obtain ⟨T, hT0⟩ := k8_ends keys
  have HFK := Lib.hid hFK; have HT0 := Lib.hid hT0; clear hFK hT0
  cases hon : onlyB 8 i g r s keys.length kids.len
  · refine ⟨false, ?_⟩
    have HON := Lib.hid hon; clear hon
    intro ka kc a cap w hkw hn
    have ht := ht0.kept hkw hN0 (by simp)
    have hN : N ≤ w.heap.size := Nat.le_trans hN0 hkw.size
    have hfld := hn.fld
    obtain ⟨⟨k1, k2⟩, ⟨i1, i2⟩, ⟨g1, g2⟩, r1, s1⟩ := hn.fld
    have hlk1 : keys.length ≤ 140737488351232 := by have := hn.keys.2.1; omega
    have hlk2 : kids.len ≤ 140737488351232 := by have := hn.kids.2.1; omega
    obtain ⟨w0, hw0⟩ : ∃ w0, w0 = (w.alloc (.cells #[.int .i64 8, .int .i64 i, .int .i64 g, .float .f64 r, .string s, .slice ka keys.length kc, .slice a kids.len cap] 26)).alloc (.cells #[.int .i64 0, .int .i64 0, .int .i64 0, .float .f64 0, .string ⟨#[]⟩, .slice none 0 0, .slice none 0 0] 31) := ⟨_, rfl⟩
    have hK0 : Kept [] w w0 := by rw [hw0]; exact ((Kept.refl [] w).alloc _).alloc _
    have hs0 : w0.heap.size = w.heap.size + 2 := by rw [hw0]; simp
    have hX1 : w0.heap[w.heap.size]? = some (.cells #[.int .i64 8, .int .i64 i, .int .i64 g, .float .f64 r, .string s, .slice ka keys.length kc, .slice a kids.len cap] 26 (0, 0)) := by
      rw [hw0, heap_lt (by simp)]; exact heap_at rfl
    have hX2 : w0.heap[w.heap.size + 1]? = some (.cells #[.int .i64 0, .int .i64 0, .int .i64 0, .float .f64 0, .string ⟨#[]⟩, .slice none 0 0, .slice none 0 0] 31 (0, 0)) := by
      rw [hw0]; exact heap_at (by simp)
    have hS0 : w.heap.size + 1 < w0.heap.size := by omega
    have HN := Lib.hid hn; clear hn hs0
    go_enter Tryz.func24, Tryz.ntmps24
    go_wp2_with fail
    rw [← hw0]
    refine (onlywF 8 i g r s ka keys.length kc a kids.len cap w0 hfld hlk1 hlk2).mono ?_
    rintro e w1 ⟨rfl, hK1⟩
    rw [HON.out]
    have hK2 : Kept [] w w1 := Kept.trans hK0 hK1 (by simp) (by simp)
    have hX1' := (hK1.block w.heap.size (by omega) (by simp)).trans hX1
    have hX2' := (hK1.block (w.heap.size + 1) (by omega) (by simp)).trans hX2
    have hS1 : w.heap.size + 1 < w1.heap.size := Nat.lt_of_lt_of_le hS0 hK1.size
    have hS2 : w.heap.size < w1.heap.size := by omega
    obtain ⟨⟨c0, c1, c2, c3, c4, c5, c6⟩, _⟩ := seven hX1'
    obtain ⟨⟨e0, e1, e2, e3, e4, e5, e6⟩, p0, p1, p2, p3, p4, p5, p6⟩ := seven hX2'
    have hoff := cell_set_off
    have r0 := fun (X : World) (i j : Nat) (u : Value) => cell_set_other (show w.heap.size + 1 ≠ w.heap.size by omega) i j X u
    clear hw0 hK0 hX1 hX2 hS0 hK1
    have HX1 := Lib.hid hX1'; have HX2 := Lib.hid hX2'; clear hX1' hX2'
    go_wp2_with fail
    refine bodyPost_ret (v := .tuple #[.agg #[.int .i64 0, .int .i64 0, .int .i64 0, .float .f64 0, .string ⟨#[]⟩, .slice none 0 0, .slice none 0 0], .bool false]) (by simp [results, Tryz.results24, go_sem, hoff, e0, e1, e2, e3, e4, e5, e6]) rfl ?_
    exact ⟨foNo (kept7 hK2 (.inl (by omega)) _ _ _ _ _ _ _), _, (by first | rfl | (rw [FL.out]; done) | (rw [FL.out]; rfl))⟩
  have ho := onlyB_true.1 hon
  have HON := Lib.hid hon; clear hon
  have HO := Lib.hid ho; clear ho
  by_cases hlen : keys.length = kids.len
  · have zl : ((keys.length : Int) != (kids.len : Int)) = false := by rw [bne_eq_false_iff_eq]; omega
    have HLEN := Lib.hid hlen; clear hlen
    refine ⟨k8R T keys.length bk, ?_⟩
    intro ka kc a cap w hkw hn
    have ht := ht0.kept hkw hN0 (by simp)
    have hN : N ≤ w.heap.size := Nat.le_trans hN0 hkw.size
    have hfld := hn.fld
    obtain ⟨⟨k1, k2⟩, ⟨i1, i2⟩, ⟨g1, g2⟩, r1, s1⟩ := hn.fld
    have hlk1 : keys.length ≤ 140737488351232 := by have := hn.keys.2.1; omega
    have hlk2 : kids.len ≤ 140737488351232 := by have := hn.kids.2.1; omega
    obtain ⟨w0, hw0⟩ : ∃ w0, w0 = (w.alloc (.cells #[.int .i64 8, .int .i64 i, .int .i64 g, .float .f64 r, .string s, .slice ka keys.length kc, .slice a kids.len cap] 26)).alloc (.cells #[.int .i64 0, .int .i64 0, .int .i64 0, .float .f64 0, .string ⟨#[]⟩, .slice none 0 0, .slice none 0 0] 31) := ⟨_, rfl⟩
    have hK0 : Kept [] w w0 := by rw [hw0]; exact ((Kept.refl [] w).alloc _).alloc _
    have hs0 : w0.heap.size = w.heap.size + 2 := by rw [hw0]; simp
    have hX1 : w0.heap[w.heap.size]? = some (.cells #[.int .i64 8, .int .i64 i, .int .i64 g, .float .f64 r, .string s, .slice ka keys.length kc, .slice a kids.len cap] 26 (0, 0)) := by
      rw [hw0, heap_lt (by simp)]; exact heap_at rfl
    have hX2 : w0.heap[w.heap.size + 1]? = some (.cells #[.int .i64 0, .int .i64 0, .int .i64 0, .float .f64 0, .string ⟨#[]⟩, .slice none 0 0, .slice none 0 0] 31 (0, 0)) := by
      rw [hw0]; exact heap_at (by simp)
    have hS0 : w.heap.size + 1 < w0.heap.size := by omega
    have HN := Lib.hid hn; clear hn hs0
    go_enter Tryz.func24, Tryz.ntmps24
    go_wp2_with fail
    rw [← hw0]
    refine (onlywF 8 i g r s ka keys.length kc a kids.len cap w0 hfld hlk1 hlk2).mono ?_
    rintro e w1 ⟨rfl, hK1⟩
    rw [HON.out]
    have hK2 : Kept [] w w1 := Kept.trans hK0 hK1 (by simp) (by simp)
    have hX1' := (hK1.block w.heap.size (by omega) (by simp)).trans hX1
    have hX2' := (hK1.block (w.heap.size + 1) (by omega) (by simp)).trans hX2
    have hS1 : w.heap.size + 1 < w1.heap.size := Nat.lt_of_lt_of_le hS0 hK1.size
    have hS2 : w.heap.size < w1.heap.size := by omega
    obtain ⟨⟨c0, c1, c2, c3, c4, c5, c6⟩, _⟩ := seven hX1'
    obtain ⟨⟨e0, e1, e2, e3, e4, e5, e6⟩, p0, p1, p2, p3, p4, p5, p6⟩ := seven hX2'
    have hoff := cell_set_off
    have r0 := fun (X : World) (i j : Nat) (u : Value) => cell_set_other (show w.heap.size + 1 ≠ w.heap.size by omega) i j X u
    clear hw0 hK0 hX1 hX2 hS0 hK1
    have HX1 := Lib.hid hX1'; have HX2 := Lib.hid hX2'; clear hX1' hX2'
    have hNw : N ≤ w1.heap.size := Nat.le_trans hN hK2.size
    have hn1 := HN.out.kept hK2 (ltk hN (by simp))
    have hks := hn1.keys.2.2
    have HN1 := Lib.hid hn1; have HKS := Lib.hid hks; clear hn1 hks
    go_wp2_with fail
    go_loop [8, 9, 128] (fun _ _ v => ∃ j : Nat, j ≤ keys.length ∧ v = .int .i64 j ∧ (∀ m (h : m + 1 < keys.length), m + 1 < j → keyGe keys[m] keys[m + 1] = false) ∧ Tr (k8F keys) j T) (fun _ _ v => keys.length - (intOf v).toNat)
    case atStart => exact ⟨0, by omega, rfl, fun m h hm => by omega, HT0.out⟩
    case round =>
      obtain ⟨j, hj, rfl, hasc, hTj⟩ := hrel
      have HT := Lib.hid hTj; clear hTj
      have HASC := Lib.hid hasc; clear hasc
      by_cases hlt : j < keys.length
      · obtain ⟨b, o, rfl, hbN, hc, hsz⟩ := HKS.out j hlt
        have hsz5 : keys[j].size ≤ 140737488355000 := Nat.le_trans hsz (by decide)
        by_cases hj0 : j = 0
        · subst hj0
          simp only [Nat.add_zero] at hc
          go_wp2_with fail
          obtain ⟨b1, hb1⟩ : ∃ b, nmB (keys[0]'hlt) = b := ⟨_, rfl⟩
          refine (nmB_is hsz5 _).mono ?_
          rintro e w' ⟨rfl, rfl⟩
          rw [hb1]
          have HB1 := Lib.hid hb1; clear hb1
          cases b1
          · skip
            have FL := Lib.hid (show k8R T keys.length bk = false from if_pos (by rw [HT.out.last (show k8F keys (0) = none by unfold k8F; rw [k8_zero hlt]; simp [HB1.out])]; exact hlt))
            go_wp2_with fail
            refine bodyPost_ret (v := .tuple #[.agg #[.int .i64 0, .int .i64 0, .int .i64 0, .float .f64 0, .string ⟨#[]⟩, .slice none 0 0, .slice none 0 0], .bool false]) (by simp [results, Tryz.results24, go_sem, hoff, e0, e1, e2, e3, e4, e5, e6]) rfl ?_
            exact ⟨foNo (kept7 hK2 (.inl (by omega)) _ _ _ _ _ _ _), _, (by first | rfl | (rw [FL.out]; done) | (rw [FL.out]; rfl))⟩
          · go_wp2_with fail
            obtain ⟨b2, hb2⟩ : ∃ b, sgB (keys[0]'hlt) = b := ⟨_, rfl⟩
            refine (sgB_is hsz5 _).mono ?_
            rintro e w' ⟨rfl, rfl⟩
            rw [hb2]
            have HB2 := Lib.hid hb2; clear hb2
            cases b2
            · have HNX := Lib.hid (HT.out.next (show k8F keys 0 = some (0 + 1) by unfold k8F; rw [k8_zero hlt]; simp [HB1.out, HB2.out]))
              go_wp2_with fail
              exact ⟨⟨1, by omega, rfl, fun m h hm => by omega, HNX.out⟩, by simp [intOf]; omega⟩
            · skip
              have FL := Lib.hid (show k8R T keys.length bk = false from if_pos (by rw [HT.out.last (show k8F keys (0) = none by unfold k8F; rw [k8_zero hlt]; simp [HB1.out, HB2.out])]; exact hlt))
              go_wp2_with fail
              refine bodyPost_ret (v := .tuple #[.agg #[.int .i64 0, .int .i64 0, .int .i64 0, .float .f64 0, .string ⟨#[]⟩, .slice none 0 0, .slice none 0 0], .bool false]) (by simp [results, Tryz.results24, go_sem, hoff, e0, e1, e2, e3, e4, e5, e6]) rfl ?_
              exact ⟨foNo (kept7 hK2 (.inl (by omega)) _ _ _ _ _ _ _), _, (by first | rfl | (rw [FL.out]; done) | (rw [FL.out]; rfl))⟩
        · obtain ⟨m, rfl⟩ : ∃ m, j = m + 1 := ⟨j - 1, by omega⟩
          obtain ⟨b', o', he, _, hc', _⟩ := HKS.out m (by omega)
          cases he
          cases hge : keyGe keys[m] keys[m + 1]
          · have hb0 : Op.bytesLess keys[m].toList keys[m + 1].toList = true := by unfold keyGe at hge; simpa using hge
            have HGE := Lib.hid hge; clear hge
            go_wp2_with fail
            obtain ⟨b1, hb1⟩ : ∃ b, nmB (keys[m + 1]'hlt) = b := ⟨_, rfl⟩
            refine (nmB_is hsz5 _).mono ?_
            rintro e w' ⟨rfl, rfl⟩
            rw [hb1]
            have HB1 := Lib.hid hb1; clear hb1
            cases b1
            · skip
              have FL := Lib.hid (show k8R T keys.length bk = false from if_pos (by rw [HT.out.last (show k8F keys (m + 1) = none by unfold k8F; rw [k8_succ hlt]; simp [HB1.out, HGE.out])]; exact hlt))
              go_wp2_with fail
              refine bodyPost_ret (v := .tuple #[.agg #[.int .i64 0, .int .i64 0, .int .i64 0, .float .f64 0, .string ⟨#[]⟩, .slice none 0 0, .slice none 0 0], .bool false]) (by simp [results, Tryz.results24, go_sem, hoff, e0, e1, e2, e3, e4, e5, e6]) rfl ?_
              exact ⟨foNo (kept7 hK2 (.inl (by omega)) _ _ _ _ _ _ _), _, (by first | rfl | (rw [FL.out]; done) | (rw [FL.out]; rfl))⟩
            · go_wp2_with fail
              obtain ⟨b2, hb2⟩ : ∃ b, sgB (keys[m + 1]'hlt) = b := ⟨_, rfl⟩
              refine (sgB_is hsz5 _).mono ?_
              rintro e w' ⟨rfl, rfl⟩
              rw [hb2]
              have HB2 := Lib.hid hb2; clear hb2
              cases b2
              · have HNX := Lib.hid (HT.out.next (show k8F keys (m + 1) = some (m + 1 + 1) by unfold k8F; rw [k8_succ hlt]; simp [HB1.out, HB2.out, HGE.out]))
                go_wp2_with fail
                refine ⟨⟨m + 1 + 1, by omega, by go_num, fun q h hm => ?_, HNX.out⟩, by simp [intOf]; omega⟩
                by_cases hq : q = m
                · subst hq; exact HGE.out
                · exact HASC.out q h (by omega)
              · skip
                have FL := Lib.hid (show k8R T keys.length bk = false from if_pos (by rw [HT.out.last (show k8F keys (m + 1) = none by unfold k8F; rw [k8_succ hlt]; simp [HB1.out, HB2.out, HGE.out])]; exact hlt))
                go_wp2_with fail
                refine bodyPost_ret (v := .tuple #[.agg #[.int .i64 0, .int .i64 0, .int .i64 0, .float .f64 0, .string ⟨#[]⟩, .slice none 0 0, .slice none 0 0], .bool false]) (by simp [results, Tryz.results24, go_sem, hoff, e0, e1, e2, e3, e4, e5, e6]) rfl ?_
                exact ⟨foNo (kept7 hK2 (.inl (by omega)) _ _ _ _ _ _ _), _, (by first | rfl | (rw [FL.out]; done) | (rw [FL.out]; rfl))⟩
          · have hb0 : Op.bytesLess keys[m].toList keys[m + 1].toList = false := by unfold keyGe at hge; simpa using hge
            have HGE := Lib.hid hge; clear hge
            go_wp2_with fail
            obtain ⟨b1, hb1⟩ : ∃ b, nmB (keys[m + 1]'hlt) = b := ⟨_, rfl⟩
            refine (nmB_is hsz5 _).mono ?_
            rintro e w' ⟨rfl, rfl⟩
            rw [hb1]
            have HB1 := Lib.hid hb1; clear hb1
            cases b1
            · skip
              have FL := Lib.hid (show k8R T keys.length bk = false from if_pos (by rw [HT.out.last (show k8F keys (m + 1) = none by unfold k8F; rw [k8_succ hlt]; simp [HB1.out, HGE.out])]; exact hlt))
              go_wp2_with fail
              refine bodyPost_ret (v := .tuple #[.agg #[.int .i64 0, .int .i64 0, .int .i64 0, .float .f64 0, .string ⟨#[]⟩, .slice none 0 0, .slice none 0 0], .bool false]) (by simp [results, Tryz.results24, go_sem, hoff, e0, e1, e2, e3, e4, e5, e6]) rfl ?_
              exact ⟨foNo (kept7 hK2 (.inl (by omega)) _ _ _ _ _ _ _), _, (by first | rfl | (rw [FL.out]; done) | (rw [FL.out]; rfl))⟩
            · go_wp2_with fail
              obtain ⟨b2, hb2⟩ : ∃ b, sgB (keys[m + 1]'hlt) = b := ⟨_, rfl⟩
              refine (sgB_is hsz5 _).mono ?_
              rintro e w' ⟨rfl, rfl⟩
              rw [hb2]
              have HB2 := Lib.hid hb2; clear hb2
              cases b2
              · skip
                have FL := Lib.hid (show k8R T keys.length bk = false from if_pos (by rw [HT.out.last (show k8F keys (m + 1) = none by unfold k8F; rw [k8_succ hlt]; simp [HB1.out, HB2.out, HGE.out])]; exact hlt))
                go_wp2_with fail
                refine bodyPost_ret (v := .tuple #[.agg #[.int .i64 0, .int .i64 0, .int .i64 0, .float .f64 0, .string ⟨#[]⟩, .slice none 0 0, .slice none 0 0], .bool false]) (by simp [results, Tryz.results24, go_sem, hoff, e0, e1, e2, e3, e4, e5, e6]) rfl ?_
                exact ⟨foNo (kept7 hK2 (.inl (by omega)) _ _ _ _ _ _ _), _, (by first | rfl | (rw [FL.out]; done) | (rw [FL.out]; rfl))⟩
              · skip
                have FL := Lib.hid (show k8R T keys.length bk = false from if_pos (by rw [HT.out.last (show k8F keys (m + 1) = none by unfold k8F; rw [k8_succ hlt]; simp [HB1.out, HB2.out, HGE.out])]; exact hlt))
                go_wp2_with fail
                refine bodyPost_ret (v := .tuple #[.agg #[.int .i64 0, .int .i64 0, .int .i64 0, .float .f64 0, .string ⟨#[]⟩, .slice none 0 0, .slice none 0 0], .bool false]) (by simp [results, Tryz.results24, go_sem, hoff, e0, e1, e2, e3, e4, e5, e6]) rfl ?_
                exact ⟨foNo (kept7 hK2 (.inl (by omega)) _ _ _ _ _ _ _), _, (by first | rfl | (rw [FL.out]; done) | (rw [FL.out]; rfl))⟩
      · have hasc2 : ∀ m (h : m + 1 < keys.length), keyGe keys[m] keys[m + 1] = false := fun m h => HASC.out m h (by omega)
        have HA2 := Lib.hid hasc2; clear hasc2
        have FL := Lib.hid (show k8R T keys.length bk = bk from if_neg (by rw [HT.out.last (show k8F keys j = none by unfold k8F; rw [k8_end hlt]; rfl)]; exact hlt))
        go_wp2_with fail
        refine (HFK.out 7 ka keys.length kc 8 i g r s keys ka kc a cap w1 (Kept.trans hkw hK2 (by simp) (by simp)) HN1.out).mono ?_
        rintro e w3 ⟨⟨hK3, k3, i3, g3, r3, s3, ka3, nk3, kc3, a3, nd3, cap3, b3, rfl, hb3⟩, v9, hv9⟩
        obtain rfl : b3 = bk := flag_eq hv9
        clear hv9
        have hX2'' := (hK3.block (w.heap.size + 1) hS1 (by simp)).trans HX2.out
        clear c0 c1 c2 c3 c4 c5 c6 e0 e1 e2 e3 e4 e5 e6 p0 p1 p2 p3 p4 p5 p6 r0
        obtain ⟨⟨e0, e1, e2, e3, e4, e5, e6⟩, p0, p1, p2, p3, p4, p5, p6⟩ := seven hX2''
        clear hX2''
        have HB3 := Lib.hid hb3; clear hb3
        go_wp2_with fail
        refine bodyPost_ret (v := .tuple #[.agg #[.int .i64 k3, .int .i64 i3, .int .i64 g3, .float .f64 r3, .string s3, .slice ka3 nk3 kc3, .slice a3 nd3 cap3], .bool b3]) (by simp [results, Tryz.results24, go_sem, hoff, e0, e1, e2, e3, e4, e5, e6]) rfl ?_
        exact ⟨foKids (keys0 := keys) hN hK2 hS1 hK3 HB3.out.1 HB3.out.2 (fun _ => ⟨HO.out, by omega, by omega, by omega, by omega, fun _ => HLEN.out, fun _ => HA2.out⟩) ⟨by decide, by omega, by omega⟩ ⟨HN1.out.keys, fun _ => rfl⟩, _, (by rw [FL.out]; first | done | rfl)⟩
  · have zl : ((keys.length : Int) != (kids.len : Int)) = true := by rw [bne_iff_ne]; omega
    refine ⟨false, ?_⟩
    intro ka kc a cap w hkw hn
    have ht := ht0.kept hkw hN0 (by simp)
    have hN : N ≤ w.heap.size := Nat.le_trans hN0 hkw.size
    have hfld := hn.fld
    obtain ⟨⟨k1, k2⟩, ⟨i1, i2⟩, ⟨g1, g2⟩, r1, s1⟩ := hn.fld
    have hlk1 : keys.length ≤ 140737488351232 := by have := hn.keys.2.1; omega
    have hlk2 : kids.len ≤ 140737488351232 := by have := hn.kids.2.1; omega
    obtain ⟨w0, hw0⟩ : ∃ w0, w0 = (w.alloc (.cells #[.int .i64 8, .int .i64 i, .int .i64 g, .float .f64 r, .string s, .slice ka keys.length kc, .slice a kids.len cap] 26)).alloc (.cells #[.int .i64 0, .int .i64 0, .int .i64 0, .float .f64 0, .string ⟨#[]⟩, .slice none 0 0, .slice none 0 0] 31) := ⟨_, rfl⟩
    have hK0 : Kept [] w w0 := by rw [hw0]; exact ((Kept.refl [] w).alloc _).alloc _
    have hs0 : w0.heap.size = w.heap.size + 2 := by rw [hw0]; simp
    have hX1 : w0.heap[w.heap.size]? = some (.cells #[.int .i64 8, .int .i64 i, .int .i64 g, .float .f64 r, .string s, .slice ka keys.length kc, .slice a kids.len cap] 26 (0, 0)) := by
      rw [hw0, heap_lt (by simp)]; exact heap_at rfl
    have hX2 : w0.heap[w.heap.size + 1]? = some (.cells #[.int .i64 0, .int .i64 0, .int .i64 0, .float .f64 0, .string ⟨#[]⟩, .slice none 0 0, .slice none 0 0] 31 (0, 0)) := by
      rw [hw0]; exact heap_at (by simp)
    have hS0 : w.heap.size + 1 < w0.heap.size := by omega
    have HN := Lib.hid hn; clear hn hs0
    go_enter Tryz.func24, Tryz.ntmps24
    go_wp2_with fail
    rw [← hw0]
    refine (onlywF 8 i g r s ka keys.length kc a kids.len cap w0 hfld hlk1 hlk2).mono ?_
    rintro e w1 ⟨rfl, hK1⟩
    rw [HON.out]
    have hK2 : Kept [] w w1 := Kept.trans hK0 hK1 (by simp) (by simp)
    have hX1' := (hK1.block w.heap.size (by omega) (by simp)).trans hX1
    have hX2' := (hK1.block (w.heap.size + 1) (by omega) (by simp)).trans hX2
    have hS1 : w.heap.size + 1 < w1.heap.size := Nat.lt_of_lt_of_le hS0 hK1.size
    have hS2 : w.heap.size < w1.heap.size := by omega
    obtain ⟨⟨c0, c1, c2, c3, c4, c5, c6⟩, _⟩ := seven hX1'
    obtain ⟨⟨e0, e1, e2, e3, e4, e5, e6⟩, p0, p1, p2, p3, p4, p5, p6⟩ := seven hX2'
    have hoff := cell_set_off
    have r0 := fun (X : World) (i j : Nat) (u : Value) => cell_set_other (show w.heap.size + 1 ≠ w.heap.size by omega) i j X u
    clear hw0 hK0 hX1 hX2 hS0 hK1
    have HX1 := Lib.hid hX1'; have HX2 := Lib.hid hX2'; clear hX1' hX2'
    go_wp2_with fail
    refine bodyPost_ret (v := .tuple #[.agg #[.int .i64 0, .int .i64 0, .int .i64 0, .float .f64 0, .string ⟨#[]⟩, .slice none 0 0, .slice none 0 0], .bool false]) (by simp [results, Tryz.results24, go_sem, hoff, e0, e1, e2, e3, e4, e5, e6]) rfl ?_
    exact ⟨foNo (kept7 hK2 (.inl (by omega)) _ _ _ _ _ _ _), _, (by first | rfl | (rw [FL.out]; done) | (rw [FL.out]; rfl))⟩
end Go.Proofs.YtfkecmlmnhbmoaaGreatDoor
namespace Go.Proofs.YtfkecmlmnhbmoaaGreatDoor
open Go.RowKit
theorem fo_stepF (N : Nat) (W0 : World) (ht0 : Tb N W0) (hN0 : N ≤ W0.heap.size) (k i g : Int) (r : Nat) (s : ByteArray) (keys : List ByteArray) (kids : F) (ih : AllN (FoF N W0) kids) : FoF N W0 k i g r s keys kids := by
  have h : k = 0 ∨ k = 1 ∨ k = 2 ∨ k = 3 ∨ k = 4 ∨ k = 5 ∨ k = 6 ∨ k = 7 ∨ k = 8 ∨ k = 9 ∨ (k < 0 ∨ 9 < k) := by omega
  rcases h with rfl | rfl | rfl | rfl | rfl | rfl | rfl | rfl | rfl | rfl | h
  · exact fo0F N W0 ht0 hN0 i g r s keys kids
  · exact fo1F N W0 ht0 hN0 i g r s keys kids
  · exact fo2F N W0 ht0 hN0 i g r s keys kids
  · exact fo3F N W0 ht0 hN0 i g r s keys kids
  · exact fo4F N W0 ht0 hN0 i g r s keys kids
  · exact fo5F N W0 ht0 hN0 i g r s keys kids
  · exact fo6F N W0 ht0 hN0 i g r s keys kids
  · exact fo7F N W0 ht0 hN0 i g r s keys kids ih
  · exact fo8F N W0 ht0 hN0 i g r s keys kids ih
  · exact fo9F N W0 ht0 hN0 i g r s keys kids
  · exact foXF N W0 ht0 hN0 k h i g r s keys kids
theorem fo_nodeF (N : Nat) (W0 : World) (ht0 : Tb N W0) (hN0 : N ≤ W0.heap.size) (k i g : Int) (r : Nat) (s : ByteArray) (keys : List ByteArray) (kids : F) : FoF N W0 k i g r s keys kids := AllN.node (fo_stepF N W0 ht0 hN0) k i g r s keys kids
set_option maxRecDepth 100000 in
set_option maxHeartbeats 8000000 in
theorem fromObjF (N : Nat) (W0 : World) (ht0 : Tb N W0) (hN0 : N ≤ W0.heap.size) (k i g : Int) (r : Nat) (s : ByteArray) (keys : List ByteArray) (kids : F) : ∃ bb : Bool, ∀ (ka : Option Addr) (kc : Nat) (a : Option Addr) (cap : Nat) (w : World), Kept [] W0 w → Node (Lt N) w k i g r s keys kids ka kc a cap →
    Calls Tryz.prog 10 #[.agg #[.int .i64 k, .int .i64 i, .int .i64 g, .float .f64 r, .string s, .slice ka keys.length kc, .slice a kids.len cap]] w fun e w' => FoE N w k i g r s keys kids e w' ∧ FlagIs bb e := by
  obtain ⟨⟨b, lf⟩, hFW⟩ := few_nodeF k i g r s keys kids 20000
  obtain ⟨bb, hFO⟩ := fo_nodeF N W0 ht0 hN0 k i g r s keys kids
  have HFW := Lib.hid hFW; have HFO := Lib.hid hFO; clear hFW hFO
  refine ⟨b && bb, fun ka kc a cap w hkw hn => ?_⟩
  have ht := ht0.kept hkw hN0 (by simp)
  have hN : N ≤ w.heap.size := Nat.le_trans hN0 hkw.size
  obtain ⟨w0, hw0⟩ : ∃ w0, w0 = ((w.alloc (.cells #[.int .i64 k, .int .i64 i, .int .i64 g, .float .f64 r, .string s, .slice ka keys.length kc, .slice a kids.len cap] 26)).alloc (.cells #[.int .i64 0, .int .i64 0, .int .i64 0, .float .f64 0, .string ⟨#[]⟩, .slice none 0 0, .slice none 0 0] 31)).alloc (.cells #[.int .i64 20000] 3) := ⟨_, rfl⟩
  have hK0 : Kept [] w w0 := by rw [hw0]; exact (((Kept.refl [] w).alloc _).alloc _).alloc _
  have hs0 : w0.heap.size = w.heap.size + 3 := by rw [hw0]; simp
  have hX1 : w0.heap[w.heap.size]? = some (.cells #[.int .i64 k, .int .i64 i, .int .i64 g, .float .f64 r, .string s, .slice ka keys.length kc, .slice a kids.len cap] 26 (0, 0)) := by
    rw [hw0, heap_lt (by simp; omega), heap_lt (by simp)]; exact heap_at rfl
  have hX2 : w0.heap[w.heap.size + 1]? = some (.cells #[.int .i64 0, .int .i64 0, .int .i64 0, .float .f64 0, .string ⟨#[]⟩, .slice none 0 0, .slice none 0 0] 31 (0, 0)) := by
    rw [hw0, heap_lt (by simp)]; exact heap_at (by simp)
  have hL : w0.heap[w.heap.size + 2]? = some (.cells #[.int .i64 20000] 3 (0, 0)) := by rw [hw0]; exact heap_at (by simp)
  have HN := Lib.hid hn; clear hn
  go_enter Tryz.func10, Tryz.ntmps10
  have hlt2 : w.heap.size + 2 < w0.heap.size := by omega
  have hnL : w.heap.size + 1 ∉ [w.heap.size + 2] := by simp
  have hnL0 : w.heap.size ∉ [w.heap.size + 2] := by simp
  go_wp2_with fail
  rw [← hw0]
  refine (HFW.out N (w.heap.size + 2) ka kc a cap w0 (HN.out.kept hK0 (ltk hN (by simp))) (by omega) hL).mono ?_
  rintro e w1 ⟨rfl, _, hK1⟩
  dsimp only
  have hK2 : Kept [] w w1 := Kept.trans hK0 hK1 (by simp) (fun y hy hl => by simp at hy; omega)
  have hX1' := (hK1.block w.heap.size (by omega) hnL0).trans hX1
  have hX2' := (hK1.block (w.heap.size + 1) (by omega) hnL).trans hX2
  have hS1 : w.heap.size + 1 < w1.heap.size := by have := hK1.size; omega
  obtain ⟨⟨c0, c1, c2, c3, c4, c5, c6⟩, _⟩ := seven hX1'
  obtain ⟨⟨e0, e1, e2, e3, e4, e5, e6⟩, p0, p1, p2, p3, p4, p5, p6⟩ := seven hX2'
  have hoff := cell_set_off
  have hNw : N ≤ w1.heap.size := Nat.le_trans hN hK2.size
  clear hw0 hK0 hX1 hX2 hK1 hL hs0 hlt2 hnL hnL0
  have HX2 := Lib.hid hX2'; clear hX2' hX1'
  cases b
  case' false =>
    go_wp2_with fail
    refine bodyPost_ret (v := .tuple #[.agg #[.int .i64 0, .int .i64 0, .int .i64 0, .float .f64 0, .string ⟨#[]⟩, .slice none 0 0, .slice none 0 0], .bool false]) (by simp [results, Tryz.results10, go_sem, hoff, e0, e1, e2, e3, e4, e5, e6]) rfl ?_
    exact ⟨foNo (kept7 hK2 (.inl (by omega)) _ _ _ _ _ _ _), _, rfl⟩
  go_wp2_with fail
  refine (HFO.out ka kc a cap w1 (Kept.trans hkw hK2 (by simp) (by simp)) (HN.out.kept hK2 (ltk hN (by simp)))).mono ?_
  rintro e w3 ⟨⟨hK3, k3, i3, g3, r3, s3, ka3, nk3, kc3, a3, nd3, cap3, b3, rfl, hb3⟩, v9, hv9⟩
  obtain rfl : b3 = bb := flag_eq hv9
  clear hv9
  have hX2'' := (hK3.block (w.heap.size + 1) hS1 (by simp)).trans HX2.out
  clear c0 c1 c2 c3 c4 c5 c6 e0 e1 e2 e3 e4 e5 e6 p0 p1 p2 p3 p4 p5 p6
  obtain ⟨⟨e0, e1, e2, e3, e4, e5, e6⟩, p0, p1, p2, p3, p4, p5, p6⟩ := seven hX2''
  clear hX2''
  have HB3 := Lib.hid hb3; clear hb3
  go_wp2_with fail
  refine bodyPost_ret (v := .tuple #[.agg #[.int .i64 k3, .int .i64 i3, .int .i64 g3, .float .f64 r3, .string s3, .slice ka3 nk3 kc3, .slice a3 nd3 cap3], .bool b3]) (by simp [results, Tryz.results10, go_sem, hoff, e0, e1, e2, e3, e4, e5, e6]) rfl ?_
  exact ⟨foStore hN hK2 hS1 hK3 HB3.out.1 HB3.out.2, _, rfl⟩
end Go.Proofs.YtfkecmlmnhbmoaaGreatDoor
namespace Go.Proofs.YtfkecmlmnhbmoaaGreatDoor
open Go.RowKit
theorem fromObjX (k i g : Int) (r : Nat) (s : ByteArray) (keys : List ByteArray) (kids : F) (N : Nat) (ka : Option Addr) (kc : Nat) (a : Option Addr) (cap : Nat) (w : World) (hn : Node (Lt N) w k i g r s keys kids ka kc a cap) (ht : Tb N w) (hN : N ≤ w.heap.size) :
    Calls Tryz.prog 10 #[.agg #[.int .i64 k, .int .i64 i, .int .i64 g, .float .f64 r, .string s, .slice ka keys.length kc, .slice a kids.len cap]] w (FoE N w k i g r s keys kids) := by
  obtain ⟨bb, h⟩ := fromObjF N w ht hN k i g r s keys kids
  exact (h ka kc a cap w (Kept.refl [] w) hn).mono fun e w' h => h.1
set_option maxRecDepth 100000 in
set_option maxHeartbeats 3000000 in
theorem nf_stepX (k i g : Int) (r : Nat) (s : ByteArray) (keys : List ByteArray) (kids : F) (ih : AllN NfC kids) : NfC k i g r s keys kids := by
  intro N ka kc a cap w hn ht hN
  have HN := Lib.hid hn
  obtain ⟨⟨⟨k1, k2⟩, ⟨i1, i2⟩, ⟨g1, g2⟩, r1, s1⟩, hkeys, hkids⟩ := hn
  have hk1 : keys.length ≤ 140737488351232 := by have := hkeys.1; have := hkeys.2.1; omega
  have hk2 : kids.len ≤ 140737488351232 := by have := hkids.1; have := hkids.2.1; omega
  obtain ⟨w0, hw0⟩ : ∃ w0, w0 = w.alloc (.cells #[.int .i64 k, .int .i64 i, .int .i64 g, .float .f64 r, .string s, .slice ka keys.length kc, .slice a kids.len cap] 26) := ⟨_, rfl⟩
  have hK0 : Kept [] w w0 := by rw [hw0]; exact (Kept.refl [] w).alloc _
  have hX : w0.heap[w.heap.size]? = some (.cells #[.int .i64 k, .int .i64 i, .int .i64 g, .float .f64 r, .string s, .slice ka keys.length kc, .slice a kids.len cap] 26 (0, 0)) := by rw [hw0]; exact heap_at rfl
  obtain ⟨⟨c0, c1, c2, c3, c4, c5, c6⟩, _⟩ := seven hX
  have hkeys0 := hkeys.kept hK0 (ltk hN (by simp))
  have hkids0 := hkids.kept hK0 (ltk hN (by simp))
  have ht0 := ht.kept hK0 hN (by simp)
  have hN0 : N ≤ w0.heap.size := Nat.le_trans hN hK0.size
  have HX := Lib.hid hX; have HKE := Lib.hid hkeys0; have HKI := Lib.hid hkids0; clear hX hkeys hkids hkeys0 hkids0 ht
  have HIH := Lib.hid ih; clear ih
  go_enter Tryz.func8, Tryz.ntmps8
  go_upto_region 1 with fail
  rw [← hw0]
  clear hw0
  by_cases hk0 : k = 0
  · have zk : (k == 0) = true := beq_iff_eq.2 hk0
    clear hk0
    go_wp2_with fail
    go_ret
    exact NfE.no hK0
  have zk : (k == 0) = false := beq_eq_false_iff_ne.2 hk0
  have HK0 := Lib.hid hk0; clear hk0
  go_wp2_with fail
  clear c0 c1 c2 c3 c4 c5
  go_loopw [4, 15] (fun _ v wr => NfK w0 keys v wr) (fun _ v _ => keys.length - (intOf v).toNat)
  case atStart => exact ⟨0, by omega, rfl, by omega, rfl⟩
  case round =>
    obtain ⟨j, hj, rfl, hs, rfl⟩ := hrel
    have HS := Lib.hid hs; clear hs
    by_cases hlt : j < keys.length
    · obtain ⟨b, o, rfl, hbN, hc, hsz⟩ := HKE.out.2.2 j hlt
      go_wp2_with fail
      refine (simplew keys[j] w0 (by omega)).mono ?_
      rintro e w1 ⟨⟨b1, rfl, hb1⟩, rfl⟩
      have HB := Lib.hid hb1; clear hb1
      cases b1
      · go_wp2_with fail
        go_ret
        exact NfE.no hK0
      · go_wp2_with fail
        refine ⟨⟨j + 1, by omega, by go_num, fun x hx hxj => ?_, rfl⟩, by simp [intOf]; omega⟩
        by_cases e : x = j
        · subst e; exact HB.out trivial
        · exact HS.out x hx (by omega)
    · have hall : ∀ x ∈ keys, Simp x := fun x hx => by
        obtain ⟨n, hn, rfl⟩ := List.getElem_of_mem hx
        exact HS.out n hn (by omega)
      have HA := Lib.hid hall; clear hall
      go_wp2_with fail
      clear hlt hj HS
      go_loopw [6, 26] (fun _ v wr => NfL w0 kids v wr) (fun _ v _ => kids.len - (intOf v).toNat)
      case atStart => exact ⟨0, by omega, rfl, trivial, Kept.refl _ _⟩
      case round =>
        obtain ⟨j, hj, rfl, hs, hK⟩ := hrel
        have HS := Lib.hid hs; clear hs
        have hKw : Kept [] w wr := Kept.trans hK0 hK (by simp) (by simp)
        have hNr : N ≤ wr.heap.size := Nat.le_trans hN hKw.size
        by_cases hlt : j < kids.len
        · obtain ⟨b, o, k', i', g', r', s', keys', kids', ka', kc', a', cap', rfl, hbN, hd, hcs, hnode⟩ := (HKI.out.kept hK (ltk hN0 (by simp))).at hlt
          rw [Nat.mul_comm 7 j] at hcs
          obtain ⟨d0, d1, d2, d3, d4, d5, d6⟩ := hcs
          have htr := ht0.kept hK hN0 (by simp)
          have hcall := fun W (hW : Kept [] wr W) => (HIH.out.at hd) N ka' kc' a' cap' W (hnode.kept hW (ltk hNr (by simp))) (htr.kept hW hNr (by simp)) (Nat.le_trans hNr hW.size)
          have HC := Lib.hid hcall; have HD := Lib.hid hd; clear hcall hd hnode htr
          go_wp2_with fail
          refine (HC.out _ ((Kept.refl [] wr).alloc _)).mono ?_
          rintro e w2 ⟨hK2, b2, rfl, hb2⟩
          have hK3 : Kept [] wr w2 := Kept.trans ((Kept.refl [] wr).alloc _) hK2 (by simp) (by simp)
          have hK4 : Kept [] w0 w2 := Kept.trans hK hK3 (by simp) (by simp)
          have HB := Lib.hid hb2; clear hb2
          cases b2
          · go_wp2_with fail
            go_ret
            exact NfE.no (Kept.trans hK0 hK4 (by simp) (by simp))
          · go_wp2_with fail
            refine ⟨⟨j + 1, by omega, by go_num, ?_, hK4⟩, by simp [intOf]; omega⟩
            rw [F.take_succ j HD.out]; exact NFree.snoc (HB.out trivial).1.1 (HB.out trivial).1.2 HS.out
        · have hjl : j = kids.len := by omega
          have hnf : NFree kids := by have := HS.out; rw [hjl, F.take_all] at this; exact this
          have HNF := Lib.hid hnf; clear hnf hjl
          have hX1 := (hK.block w.heap.size (lt_of_block HX.out) (by simp)).trans HX.out
          clear c6
          obtain ⟨⟨c0, c1, c2, c3, c4, c5, c6⟩, _⟩ := seven hX1
          clear hX1
          go_wp2_with fail
          refine (fromObjX k i g r s keys kids N ka kc a cap wr (HN.out.kept hKw (ltk hN (by simp))) (ht0.kept hK hN0 (by simp)) hNr).mono ?_
          rintro e w3 ⟨hK3, k3, i3, g3, r3, s3, ka3, nk3, kc3, a3, nd3, cap3, b3, rfl, hb3⟩
          have hK4 : Kept [] w w3 := Kept.trans hKw hK3 (by simp) (by simp)
          have HB := Lib.hid hb3; clear hb3
          go_wp2_with fail
          go_ret
          exact ⟨hK4.alloc _, _, rfl, fun h => ⟨⟨⟨HK0.out, HA.out⟩, HNF.out⟩, (HB.out.1 h).1, (HB.out.1 h).2.1⟩⟩
/-- NullFree says yes: and the flag that was told is yes. -/
def NfB (bb : Bool) (k i g : Int) (r : Nat) (s : ByteArray) (keys : List ByteArray) (kids : F) (w : World) (e : Ending) (w' : World) : Prop :=
  Kept [] w w' ∧ ∃ b : Bool, e = .returned (.bool b) ∧ (b = true → ((NFree1 k keys ∧ NFree kids) ∧ Good1 k i g r s keys kids ∧ Good kids) ∧ bb = true)
theorem nfNo {bb : Bool} {k i g : Int} {r : Nat} {s : ByteArray} {keys : List ByteArray} {kids : F} {w w' : World} (h : Kept [] w w') : NfB bb k i g r s keys kids w (.returned (.bool false)) w' := ⟨h, false, rfl, fun h => by cases h⟩
set_option maxRecDepth 100000 in
set_option maxHeartbeats 3000000 in
theorem nfF (N : Nat) (W0 : World) (ht0 : Tb N W0) (hNW : N ≤ W0.heap.size) (k i g : Int) (r : Nat) (s : ByteArray) (keys : List ByteArray) (kids : F) (bb : Bool)
    (hFO : ∀ (ka : Option Addr) (kc : Nat) (a : Option Addr) (cap : Nat) (w : World), Kept [] W0 w → Node (Lt N) w k i g r s keys kids ka kc a cap →
      Calls Tryz.prog 10 #[.agg #[.int .i64 k, .int .i64 i, .int .i64 g, .float .f64 r, .string s, .slice ka keys.length kc, .slice a kids.len cap]] w fun e w' => FoE N w k i g r s keys kids e w' ∧ FlagIs bb e)
    (ka : Option Addr) (kc : Nat) (a : Option Addr) (cap : Nat) (w : World) (hkw : Kept [] W0 w) (hn : Node (Lt N) w k i g r s keys kids ka kc a cap) :
    Calls Tryz.prog 8 #[.agg #[.int .i64 k, .int .i64 i, .int .i64 g, .float .f64 r, .string s, .slice ka keys.length kc, .slice a kids.len cap]] w (NfB bb k i g r s keys kids w) := by
  have ht := ht0.kept hkw hNW (by simp)
  have hN : N ≤ w.heap.size := Nat.le_trans hNW hkw.size
  have HFO := Lib.hid hFO; clear hFO
  have HN := Lib.hid hn
  obtain ⟨⟨⟨k1, k2⟩, ⟨i1, i2⟩, ⟨g1, g2⟩, r1, s1⟩, hkeys, hkids⟩ := hn
  have hk1 : keys.length ≤ 140737488351232 := by have := hkeys.1; have := hkeys.2.1; omega
  have hk2 : kids.len ≤ 140737488351232 := by have := hkids.1; have := hkids.2.1; omega
  obtain ⟨w0, hw0⟩ : ∃ w0, w0 = w.alloc (.cells #[.int .i64 k, .int .i64 i, .int .i64 g, .float .f64 r, .string s, .slice ka keys.length kc, .slice a kids.len cap] 26) := ⟨_, rfl⟩
  have hK0 : Kept [] w w0 := by rw [hw0]; exact (Kept.refl [] w).alloc _
  have hX : w0.heap[w.heap.size]? = some (.cells #[.int .i64 k, .int .i64 i, .int .i64 g, .float .f64 r, .string s, .slice ka keys.length kc, .slice a kids.len cap] 26 (0, 0)) := by rw [hw0]; exact heap_at rfl
  obtain ⟨⟨c0, c1, c2, c3, c4, c5, c6⟩, _⟩ := seven hX
  have hkeys0 := hkeys.kept hK0 (ltk hN (by simp))
  have hkids0 := hkids.kept hK0 (ltk hN (by simp))
  have ht1 := ht.kept hK0 hN (by simp)
  have hN0 : N ≤ w0.heap.size := Nat.le_trans hN hK0.size
  have HX := Lib.hid hX; have HKE := Lib.hid hkeys0; have HKI := Lib.hid hkids0; clear hX hkeys hkids hkeys0 hkids0 ht
  have HIH := Lib.hid (AllN.all nf_stepX kids)
  go_enter Tryz.func8, Tryz.ntmps8
  go_upto_region 1 with fail
  rw [← hw0]
  clear hw0
  by_cases hk0 : k = 0
  · have zk : (k == 0) = true := beq_iff_eq.2 hk0
    clear hk0
    go_wp2_with fail
    go_ret
    exact nfNo hK0
  have zk : (k == 0) = false := beq_eq_false_iff_ne.2 hk0
  have HK0 := Lib.hid hk0; clear hk0
  go_wp2_with fail
  clear c0 c1 c2 c3 c4 c5
  go_loopw [4, 15] (fun _ v wr => NfK w0 keys v wr) (fun _ v _ => keys.length - (intOf v).toNat)
  case atStart => exact ⟨0, by omega, rfl, by omega, rfl⟩
  case round =>
    obtain ⟨j, hj, rfl, hs, rfl⟩ := hrel
    have HS := Lib.hid hs; clear hs
    by_cases hlt : j < keys.length
    · obtain ⟨b, o, rfl, hbN, hc, hsz⟩ := HKE.out.2.2 j hlt
      go_wp2_with fail
      refine (simplew keys[j] w0 (by omega)).mono ?_
      rintro e w1 ⟨⟨b1, rfl, hb1⟩, rfl⟩
      have HB := Lib.hid hb1; clear hb1
      cases b1
      · go_wp2_with fail
        go_ret
        exact nfNo hK0
      · go_wp2_with fail
        refine ⟨⟨j + 1, by omega, by go_num, fun x hx hxj => ?_, rfl⟩, by simp [intOf]; omega⟩
        by_cases e : x = j
        · subst e; exact HB.out trivial
        · exact HS.out x hx (by omega)
    · have hall : ∀ x ∈ keys, Simp x := fun x hx => by
        obtain ⟨n, hn, rfl⟩ := List.getElem_of_mem hx
        exact HS.out n hn (by omega)
      have HA := Lib.hid hall; clear hall
      go_wp2_with fail
      clear hlt hj HS
      go_loopw [6, 26] (fun _ v wr => NfL w0 kids v wr) (fun _ v _ => kids.len - (intOf v).toNat)
      case atStart => exact ⟨0, by omega, rfl, trivial, Kept.refl _ _⟩
      case round =>
        obtain ⟨j, hj, rfl, hs, hK⟩ := hrel
        have HS := Lib.hid hs; clear hs
        have hKw : Kept [] w wr := Kept.trans hK0 hK (by simp) (by simp)
        have hNr : N ≤ wr.heap.size := Nat.le_trans hN hKw.size
        by_cases hlt : j < kids.len
        · obtain ⟨b, o, k', i', g', r', s', keys', kids', ka', kc', a', cap', rfl, hbN, hd, hcs, hnode⟩ := (HKI.out.kept hK (ltk hN0 (by simp))).at hlt
          rw [Nat.mul_comm 7 j] at hcs
          obtain ⟨d0, d1, d2, d3, d4, d5, d6⟩ := hcs
          have htr := ht1.kept hK hN0 (by simp)
          have hcall := fun W (hW : Kept [] wr W) => (HIH.out.at hd) N ka' kc' a' cap' W (hnode.kept hW (ltk hNr (by simp))) (htr.kept hW hNr (by simp)) (Nat.le_trans hNr hW.size)
          have HC := Lib.hid hcall; have HD := Lib.hid hd; clear hcall hd hnode htr
          go_wp2_with fail
          refine (HC.out _ ((Kept.refl [] wr).alloc _)).mono ?_
          rintro e w2 ⟨hK2, b2, rfl, hb2⟩
          have hK3 : Kept [] wr w2 := Kept.trans ((Kept.refl [] wr).alloc _) hK2 (by simp) (by simp)
          have hK4 : Kept [] w0 w2 := Kept.trans hK hK3 (by simp) (by simp)
          have HB := Lib.hid hb2; clear hb2
          cases b2
          · go_wp2_with fail
            go_ret
            exact nfNo (Kept.trans hK0 hK4 (by simp) (by simp))
          · go_wp2_with fail
            refine ⟨⟨j + 1, by omega, by go_num, ?_, hK4⟩, by simp [intOf]; omega⟩
            rw [F.take_succ j HD.out]; exact NFree.snoc (HB.out trivial).1.1 (HB.out trivial).1.2 HS.out
        · have hjl : j = kids.len := by omega
          have hnf : NFree kids := by have := HS.out; rw [hjl, F.take_all] at this; exact this
          have HNF := Lib.hid hnf; clear hnf hjl
          have hX1 := (hK.block w.heap.size (lt_of_block HX.out) (by simp)).trans HX.out
          clear c6
          obtain ⟨⟨c0, c1, c2, c3, c4, c5, c6⟩, _⟩ := seven hX1
          clear hX1
          go_wp2_with fail
          refine (HFO.out ka kc a cap wr (Kept.trans hkw hKw (by simp) (by simp)) (HN.out.kept hKw (ltk hN (by simp)))).mono ?_
          rintro e w3 ⟨⟨hK3, k3, i3, g3, r3, s3, ka3, nk3, kc3, a3, nd3, cap3, b3, rfl, hb3⟩, v9, hv9⟩
          have hbb : b3 = bb := flag_eq hv9
          have HBB := Lib.hid hbb; clear hv9 hbb
          have hK4 : Kept [] w w3 := Kept.trans hKw hK3 (by simp) (by simp)
          have HB := Lib.hid hb3; clear hb3
          go_wp2_with fail
          go_ret
          exact ⟨hK4.alloc _, _, rfl, fun h => ⟨⟨⟨⟨HK0.out, HA.out⟩, HNF.out⟩, (HB.out.1 h).1, (HB.out.1 h).2.1⟩, HBB.out ▸ h⟩⟩
end Go.Proofs.YtfkecmlmnhbmoaaGreatDoor
namespace Go.Proofs.YtfkecmlmnhbmoaaGreatDoor
open Go.RowKit
theorem F.size_snoc (k i g : Int) (r : Nat) (s : ByteArray) (keys : List ByteArray) (kids : F) : ∀ f : F, (f.snoc k i g r s keys kids).size = f.size + kids.size + 1
  | .nil => by simp [F.snoc, F.size]
  | .cons _ _ _ _ _ _ _ rest => by simp only [F.snoc, F.size, F.size_snoc k i g r s keys kids rest]; omega
def NdE (kids : F) (most : Int) (w : World) (e : Ending) (w' : World) : Prop :=
  Kept [] w w' ∧ ∃ n : Int, e = .returned (.int .i64 n) ∧ 1 ≤ n ∧ n ≤ most + 1 ∧ (n ≤ most → n = kids.size + 1)
def NdC (k i g : Int) (r : Nat) (s : ByteArray) (keys : List ByteArray) (kids : F) : Prop := ∀ (N : Nat) (ka : Option Addr) (kc : Nat) (a : Option Addr) (cap : Nat) (most : Int) (w : World), Node (Lt N) w k i g r s keys kids ka kc a cap → N ≤ w.heap.size → 0 ≤ most → most ≤ 5000 →
  Calls Tryz.prog 25 #[.agg #[.int .i64 k, .int .i64 i, .int .i64 g, .float .f64 r, .string s, .slice ka keys.length kc, .slice a kids.len cap], .int .i64 most] w (NdE kids most w)
def NdL (w0 : World) (most : Int) (kids : F) (v5 v6 : Value) (wr : World) : Prop := ∃ (n : Int) (j : Nat), v5 = .int .i64 n ∧ v6 = .int .i64 j ∧ j ≤ kids.len ∧ 1 ≤ n ∧ n ≤ most + 1 ∧ (n ≤ most → n = (kids.take j).size + 1) ∧ Kept [] w0 wr
set_option maxRecDepth 100000 in
set_option maxHeartbeats 3000000 in
theorem nd_step (k i g : Int) (r : Nat) (s : ByteArray) (keys : List ByteArray) (kids : F) (ih : AllN NdC kids) : NdC k i g r s keys kids := by
  intro N ka kc a cap most w hn hN hm0 hm1
  obtain ⟨⟨⟨k1, k2⟩, ⟨i1, i2⟩, ⟨g1, g2⟩, r1, s1⟩, hkeys, hkids⟩ := hn
  have hk1 : keys.length ≤ 140737488351232 := by have := hkeys.1; have := hkeys.2.1; omega
  have hk2 : kids.len ≤ 140737488351232 := by have := hkids.1; have := hkids.2.1; omega
  obtain ⟨w0, hw0⟩ : ∃ w0, w0 = w.alloc (.cells #[.int .i64 k, .int .i64 i, .int .i64 g, .float .f64 r, .string s, .slice ka keys.length kc, .slice a kids.len cap] 31) := ⟨_, rfl⟩
  have hK0 : Kept [] w w0 := by rw [hw0]; exact (Kept.refl [] w).alloc _
  have hX : w0.heap[w.heap.size]? = some (.cells #[.int .i64 k, .int .i64 i, .int .i64 g, .float .f64 r, .string s, .slice ka keys.length kc, .slice a kids.len cap] 31 (0, 0)) := by rw [hw0]; exact heap_at rfl
  have hkids0 := hkids.kept hK0 (ltk hN (by simp))
  have hN0 : N ≤ w0.heap.size := Nat.le_trans hN hK0.size
  have HX := Lib.hid hX; have HKI := Lib.hid hkids0; clear hX hkeys hkids hkids0
  have HIH := Lib.hid ih; clear ih
  go_enter Tryz.func25, Tryz.ntmps25
  go_upto_region 1 with fail
  rw [← hw0]
  clear hw0
  go_wp2_with fail
  go_loopw [5, 6] (fun v5 v6 wr => NdL w0 most kids v5 v6 wr) (fun _ v _ => kids.len - (intOf v).toNat)
  case atStart => exact ⟨1, 0, rfl, rfl, by omega, by omega, by omega, fun _ => by simp [F.take, F.size], Kept.refl _ _⟩
  case round =>
    obtain ⟨n, j, rfl, rfl, hj, hn1, hn2, hs, hK⟩ := hrel
    have HS := Lib.hid hs; clear hs
    have hKw : Kept [] w wr := Kept.trans hK0 hK (by simp) (by simp)
    have hNr : N ≤ wr.heap.size := Nat.le_trans hN hKw.size
    have hX1 := (hK.block w.heap.size (lt_of_block HX.out) (by simp)).trans HX.out
    obtain ⟨⟨c0, c1, c2, c3, c4, c5, c6⟩, _⟩ := seven hX1
    clear hX1
    by_cases hlt : j < kids.len
    · by_cases hnm : n ≤ most
      · obtain ⟨b, o, k', i', g', r', s', keys', kids', ka', kc', a', cap', rfl, hbN, hd, hcs, hnode⟩ := (HKI.out.kept hK (ltk hN0 (by simp))).at hlt
        rw [Nat.mul_comm 7 j] at hcs
        obtain ⟨d0, d1, d2, d3, d4, d5, d6⟩ := hcs
        have hcall := (HIH.out.at hd) N ka' kc' a' cap' (most - n) wr hnode hNr (by omega) (by omega)
        have HC := Lib.hid hcall; have HD := Lib.hid hd; clear hcall hd hnode
        go_wp2_with fail
        refine HC.out.mono ?_
        rintro e w2 ⟨hK2, n2, rfl, hb1, hb2, hb3⟩
        have HB := Lib.hid hb3; clear hb3
        have hK4 : Kept [] w0 w2 := Kept.trans hK hK2 (by simp) (by simp)
        go_wp2_with fail
        refine ⟨⟨n + n2, j + 1, rfl, by go_num, by omega, by omega, by omega, fun h => ?_, hK4⟩, by simp [intOf]; omega⟩
        rw [F.take_succ j HD.out, F.size_snoc, HS.out (by omega), HB.out (by omega)]
        omega
      · go_wp2_with fail
        go_ret
        exact ⟨hKw, n, rfl, hn1, hn2, fun h => absurd h (by omega)⟩
    · have hjl : j = kids.len := by omega
      have hsz : n ≤ most → n = kids.size + 1 := by have := HS.out; rw [hjl, F.take_all] at this; exact this
      have HSZ := Lib.hid hsz; clear hsz
      go_wp2_with fail
      go_ret
      exact ⟨hKw, n, rfl, hn1, hn2, HSZ.out⟩
theorem nd_node (k i g : Int) (r : Nat) (s : ByteArray) (keys : List ByteArray) (kids : F) : NdC k i g r s keys kids := AllN.node nd_step k i g r s keys kids
def LvE (kids : F) (w : World) (e : Ending) (w' : World) : Prop := Kept [] w w' ∧ ∃ n : Int, e = .returned (.int .i64 n) ∧ 0 ≤ n ∧ n ≤ kids.size + 1
def LvC (k i g : Int) (r : Nat) (s : ByteArray) (keys : List ByteArray) (kids : F) : Prop := ∀ (N : Nat) (ka : Option Addr) (kc : Nat) (a : Option Addr) (cap : Nat) (w : World), Node (Lt N) w k i g r s keys kids ka kc a cap → N ≤ w.heap.size → kids.size ≤ 5000 →
  Calls Tryz.prog 26 #[.agg #[.int .i64 k, .int .i64 i, .int .i64 g, .float .f64 r, .string s, .slice ka keys.length kc, .slice a kids.len cap]] w (LvE kids w)
def LvL (w0 : World) (kids : F) (v3 v9 : Value) (wr : World) : Prop := ∃ (n : Int) (j : Nat), v3 = .int .i64 n ∧ v9 = .int .i64 j ∧ j ≤ kids.len ∧ 0 ≤ n ∧ n ≤ kids.size ∧ Kept [] w0 wr
theorem F.size_drop : ∀ (n : Nat) (f : F), (f.drop n).size ≤ f.size
  | 0, _ => Nat.le_refl _
  | _ + 1, .nil => Nat.le_refl _
  | n + 1, .cons _ _ _ _ _ _ _ rest => by have := F.size_drop n rest; simp only [F.drop, F.size]; omega
theorem F.size_at {f rest : F} {n : Nat} {k i g : Int} {r : Nat} {s : ByteArray} {keys : List ByteArray} {kids : F} (h : f.drop n = .cons k i g r s keys kids rest) : kids.size + 1 ≤ f.size := by
  have := F.size_drop n f
  rw [h] at this
  simp only [F.size] at this; omega
set_option maxRecDepth 100000 in
set_option maxHeartbeats 3000000 in
theorem lv_step (k i g : Int) (r : Nat) (s : ByteArray) (keys : List ByteArray) (kids : F) (ih : AllN LvC kids) : LvC k i g r s keys kids := by
  intro N ka kc a cap w hn hN hm1
  obtain ⟨⟨⟨k1, k2⟩, ⟨i1, i2⟩, ⟨g1, g2⟩, r1, s1⟩, hkeys, hkids⟩ := hn
  have hk1 : keys.length ≤ 140737488351232 := by have := hkeys.1; have := hkeys.2.1; omega
  have hk2 : kids.len ≤ 140737488351232 := by have := hkids.1; have := hkids.2.1; omega
  obtain ⟨w0, hw0⟩ : ∃ w0, w0 = w.alloc (.cells #[.int .i64 k, .int .i64 i, .int .i64 g, .float .f64 r, .string s, .slice ka keys.length kc, .slice a kids.len cap] 31) := ⟨_, rfl⟩
  have hK0 : Kept [] w w0 := by rw [hw0]; exact (Kept.refl [] w).alloc _
  have hX : w0.heap[w.heap.size]? = some (.cells #[.int .i64 k, .int .i64 i, .int .i64 g, .float .f64 r, .string s, .slice ka keys.length kc, .slice a kids.len cap] 31 (0, 0)) := by rw [hw0]; exact heap_at rfl
  obtain ⟨⟨c0, c1, c2, c3, c4, c5, c6⟩, _⟩ := seven hX
  have hkids0 := hkids.kept hK0 (ltk hN (by simp))
  have hN0 : N ≤ w0.heap.size := Nat.le_trans hN hK0.size
  have HKI := Lib.hid hkids0; clear hX hkeys hkids hkids0
  have HIH := Lib.hid ih; clear ih
  go_enter Tryz.func26, Tryz.ntmps26
  go_upto_region 1 with fail
  rw [← hw0]
  clear hw0
  go_wp2_with fail
  clear c0 c1 c2 c3 c4 c5 c6
  go_loopw [3, 5, 9] (fun v3 _ v9 wr => LvL w0 kids v3 v9 wr) (fun _ _ v _ => kids.len - (intOf v).toNat)
  case atStart => exact ⟨0, 0, rfl, rfl, by omega, by omega, by omega, Kept.refl _ _⟩
  case round =>
    obtain ⟨n, j, rfl, rfl, hj, hn1, hn2, hK⟩ := hrel
    have hKw : Kept [] w wr := Kept.trans hK0 hK (by simp) (by simp)
    have hNr : N ≤ wr.heap.size := Nat.le_trans hN hKw.size
    by_cases hlt : j < kids.len
    · obtain ⟨b, o, k', i', g', r', s', keys', kids', ka', kc', a', cap', rfl, hbN, hd, hcs, hnode⟩ := (HKI.out.kept hK (ltk hN0 (by simp))).at hlt
      rw [Nat.mul_comm 7 j] at hcs
      obtain ⟨d0, d1, d2, d3, d4, d5, d6⟩ := hcs
      have hs2 := F.size_at hd
      have hcall := fun W (hW : Kept [] wr W) => (HIH.out.at hd) N ka' kc' a' cap' W (hnode.kept hW (ltk hNr (by simp))) (Nat.le_trans hNr hW.size) (by omega)
      have HC := Lib.hid hcall; clear hcall hd hnode
      go_wp2_with fail
      refine (HC.out _ ((Kept.refl [] wr).alloc _)).mono ?_
      rintro e w2 ⟨hK2, n2, rfl, hb1, hb2⟩
      have hK3 : Kept [] wr w2 := Kept.trans ((Kept.refl [] wr).alloc _) hK2 (by simp) (by simp)
      have hK4 : Kept [] w0 w2 := Kept.trans hK hK3 (by simp) (by simp)
      go_wp2_with fail
      refine ⟨⟨_, j + 1, rfl, by go_num, by omega, ?_, ?_, hK4⟩, by simp [intOf]; omega⟩ <;> omega
    · go_wp2_with fail
      go_ret
      exact ⟨hKw, n + 1, rfl, by omega, by omega⟩
theorem lv_node (k i g : Int) (r : Nat) (s : ByteArray) (keys : List ByteArray) (kids : F) : LvC k i g r s keys kids := AllN.node lv_step k i g r s keys kids
def MoE (kids : F) (w : World) (e : Ending) (w' : World) : Prop := Kept [] w w' ∧ ∃ b : Bool, e = .returned (.bool b) ∧ (b = true → kids.size ≤ 5000)
set_option maxRecDepth 100000 in
set_option maxHeartbeats 3000000 in
theorem modest (k i g : Int) (r : Nat) (s : ByteArray) (keys : List ByteArray) (kids : F) (N : Nat) (ka : Option Addr) (kc : Nat) (a : Option Addr) (cap : Nat) (w : World) (hn : Node (Lt N) w k i g r s keys kids ka kc a cap) (hN : N ≤ w.heap.size) :
    Calls Tryz.prog 11 #[.agg #[.int .i64 k, .int .i64 i, .int .i64 g, .float .f64 r, .string s, .slice ka keys.length kc, .slice a kids.len cap]] w (MoE kids w) := by
  obtain ⟨w0, hw0⟩ : ∃ w0, w0 = w.alloc (.cells #[.int .i64 k, .int .i64 i, .int .i64 g, .float .f64 r, .string s, .slice ka keys.length kc, .slice a kids.len cap] 31) := ⟨_, rfl⟩
  have hK0 : Kept [] w w0 := by rw [hw0]; exact (Kept.refl [] w).alloc _
  have hX : w0.heap[w.heap.size]? = some (.cells #[.int .i64 k, .int .i64 i, .int .i64 g, .float .f64 r, .string s, .slice ka keys.length kc, .slice a kids.len cap] 31 (0, 0)) := by rw [hw0]; exact heap_at rfl
  obtain ⟨⟨c0, c1, c2, c3, c4, c5, c6⟩, _⟩ := seven hX
  have hN0 : N ≤ w0.heap.size := Nat.le_trans hN hK0.size
  have HX := Lib.hid hX; have HN := Lib.hid hn; clear hX hn
  go_enter Tryz.func11, Tryz.ntmps11
  go_upto_region 1 with fail
  rw [← hw0]
  clear hw0
  go_wp2_with fail
  refine ((nd_node k i g r s keys kids) N ka kc a cap 5000 w0 (HN.out.kept hK0 (ltk hN (by simp))) hN0 (by omega) (by omega)).mono ?_
  rintro e w1 ⟨hK1, n, rfl, hn1, hn2, hn3⟩
  have hK2 : Kept [] w w1 := Kept.trans hK0 hK1 (by simp) (by simp)
  have hX1 := (hK1.block w.heap.size (lt_of_block HX.out) (by simp)).trans HX.out
  clear c0 c1 c2 c3 c4 c5 c6
  obtain ⟨⟨c0, c1, c2, c3, c4, c5, c6⟩, _⟩ := seven hX1
  clear hX1
  by_cases h5 : n ≤ 5000
  · have hs := hn3 h5
    clear hn3
    go_wp2_with fail
    refine ((lv_node k i g r s keys kids) N ka kc a cap w1 (HN.out.kept hK2 (ltk hN (by simp))) (Nat.le_trans hN hK2.size) (by omega)).mono ?_
    rintro e w2 ⟨hK3, n2, rfl, hb1, hb2⟩
    go_wp2_with fail
    go_ret
    exact ⟨Kept.trans hK2 hK3 (by simp) (by simp), _, rfl, fun _ => by omega⟩
  · clear hn3
    go_wp2_with fail
    go_ret
    exact ⟨hK2, _, rfl, fun h => by cases h⟩
end Go.Proofs.YtfkecmlmnhbmoaaGreatDoor
namespace Go.Proofs.YtfkecmlmnhbmoaaGreatDoor
open Go.RowKit
def decVal (l : List UInt8) : Nat := l.foldl (fun a c => a * 10 + (c.toNat - 48)) 0
theorem decVal_digits (u : Nat) : decVal (Lib.decDigits u) = u := by
  induction u using Nat.strongRecOn with
  | _ u ih =>
    rw [Lib.decDigits]
    by_cases h : u < 10
    · rw [dif_pos h]; simp [decVal]; omega
    · rw [dif_neg h]
      have := ih (u / 10) (by omega)
      unfold decVal at this ⊢
      rw [List.foldl_append, this]
      simp; omega
theorem decDigits_inj {a b : Nat} (h : Lib.decDigits a = Lib.decDigits b) : a = b := by
  have := congrArg decVal h
  rwa [decVal_digits, decVal_digits] at this
/-- The text of a whole number not below zero. -/
def txtOf (n : Nat) : ByteArray := ⟨(Lib.itoa (n : Int)).toArray⟩
theorem txtOf_inj {a b : Nat} (h : txtOf a = txtOf b) : a = b := by
  unfold txtOf at h
  rw [Lib.itoa_nonneg, Lib.itoa_nonneg, ByteArray.mk.injEq] at h
  exact decDigits_inj (by simpa using congrArg Array.toList h)
theorem pre_inj {p a b : ByteArray} (h : p ++ a = p ++ b) : a = b := by
  have := congrArg (fun x => x.data.toList) h
  simp only [ByteArray.data_append, Array.toList_append, List.append_cancel_left_eq] at this
  exact ByteArray.ext (Array.toList_inj.1 this)
theorem pig {α : Type} [DecidableEq α] (f : Nat → α) (hf : ∀ a b, f a = f b → a = b) : ∀ (S : List Nat) (L : List α), S.Nodup → (∀ x ∈ S, f x ∈ L) → S.length ≤ L.length
  | [], _, _, _ => Nat.zero_le _
  | x :: S, L, hn, h => by
    have hx := h x (by simp)
    rw [List.nodup_cons] at hn
    have := pig f hf S (L.erase (f x)) hn.2 (fun y hy => (List.mem_erase_of_ne (fun e => hn.1 (by rw [← hf _ _ e]; exact hy))).2 (h y (by simp [hy])))
    rw [List.length_erase_of_mem hx] at this
    have := List.length_pos_of_mem hx
    simp; omega
theorem pigj {α : Type} [DecidableEq α] (f : Nat → α) (hf : ∀ a b, f a = f b → a = b) (L : List α) (j : Nat) (h : ∀ x, x < j → f x ∈ L) : j ≤ L.length := by
  have := pig f hf (List.range j) L List.nodup_range (fun x hx => h x (List.mem_range.1 hx))
  simpa using this
theorem Kept.growd {w : World} (k : Nat) (os : Array Obj) : Kept [] w (Go.Sort.grow (w.drewN k) os) := by
  have h := (Kept.refl [] w).drewN k
  refine ⟨h.os, h.tape, h.output, ?_, fun i hi hx => ?_⟩
  · rw [Go.Sort.size_grow]; have := h.size; omega
  · rw [← h.block i hi hx]
    show ((w.drewN k).heap ++ os)[i]? = _
    rw [Array.getElem?_append_left (Nat.lt_of_lt_of_le hi h.size)]
theorem itow (n N : Nat) (w : World) (hn : n ≤ 9223372036854775807) (ht : Tb N w) : Calls Tryz.prog 27 #[.int .i64 n] w fun e w' => e = .returned (.string (txtOf n)) ∧ Kept [] w w' := by
  refine (Tryz.strconv_Itoa n (by omega) (by omega) w ht.tabs.tab).mono ?_
  rintro e w' ⟨rfl, k, os, rfl⟩
  exact ⟨rfl, Kept.growd k os⟩
theorem textw (n N : Nat) (w : World) (hn : n ≤ 9223372036854775807) (ht : Tb N w) : Calls Tryz.prog 13 #[.int .i64 n] w fun e w' => e = .returned (.string (txtOf n)) ∧ Kept [] w w' := by
  go_enter Tryz.func13, Tryz.ntmps13
  go_wp2_with fail
  refine (itow n N w hn ht).mono ?_
  rintro e w' ⟨rfl, hK⟩
  go_wp2_with fail
  go_ret
  exact ⟨rfl, hK⟩
theorem txt_len (n : Nat) (hn : n ≤ 9223372036854775807) : (txtOf n).size ≤ 21 := by
  have := Lib.itoa_length_le n (by omega) (by omega)
  show (List.toArray _).size ≤ 21
  simpa using this
theorem bl_inj {a b : ByteArray} (h : a.toList = b.toList) : a = b := by
  rw [ByteArray.toList_eq, ByteArray.toList_eq] at h
  exact ByteArray.ext (Array.toList_inj.1 h)
theorem beq_of {a b : ByteArray} (h : a = b) : (a.toList == b.toList) = true := by subst h; exact beq_self_eq_true _
theorem beq_not {a b : ByteArray} (h : a ≠ b) : (a.toList == b.toList) = false := beq_eq_false_iff_ne.2 fun e => h (bl_inj e)
def EnE (key : ByteArray) (keys : List ByteArray) (w : World) (e : Ending) (w' : World) : Prop :=
  Kept [] w w' ∧ ∃ (k i g : Int) (r : Nat) (s : ByteArray) (a5 : Option Addr) (n5 c5 : Nat) (a6 : Option Addr) (n6 c6 : Nat) (b : Bool), e = .returned (.tuple #[.agg #[.int .i64 k, .int .i64 i, .int .i64 g, .float .f64 r, .string s, .slice a5 n5 c5, .slice a6 n6 c6], .bool b]) ∧ (b = true ↔ key ∈ keys)
def NZ (k _i _g : Int) (_r : Nat) (_s : ByteArray) (_keys : List ByteArray) (_kids : F) : Prop := k ≠ 0
def EnL (w0 : World) (key : ByteArray) (keys : List ByteArray) (v : Value) (wr : World) : Prop := ∃ j : Nat, j ≤ keys.length ∧ v = .int .i64 j ∧ (∀ i (h : i < keys.length), i < j → keys[i] ≠ key) ∧ w0 = wr
set_option maxRecDepth 100000 in
set_option maxHeartbeats 3000000 in
theorem entry (key : ByteArray) (k i g : Int) (r : Nat) (s : ByteArray) (keys : List ByteArray) (kids : F) (N : Nat) (ka : Option Addr) (kc : Nat) (a : Option Addr) (cap : Nat) (w : World) (hn : Node (Lt N) w k i g r s keys kids ka kc a cap) (hN : N ≤ w.heap.size) (hlen : keys.length = kids.len) (hnz : AllN NZ kids) :
    Calls Tryz.prog 12 #[.agg #[.int .i64 k, .int .i64 i, .int .i64 g, .float .f64 r, .string s, .slice ka keys.length kc, .slice a kids.len cap], .string key] w (EnE key keys w) := by
  obtain ⟨⟨⟨k1, k2⟩, ⟨i1, i2⟩, ⟨g1, g2⟩, r1, s1⟩, hkeys, hkids⟩ := hn
  have hk1 : keys.length ≤ 140737488351232 := by have := hkeys.1; have := hkeys.2.1; omega
  have hk2 : kids.len ≤ 140737488351232 := by have := hkids.1; have := hkids.2.1; omega
  obtain ⟨w0, hw0⟩ : ∃ w0, w0 = (w.alloc (.cells #[.int .i64 k, .int .i64 i, .int .i64 g, .float .f64 r, .string s, .slice ka keys.length kc, .slice a kids.len cap] 31)).alloc (.cells #[.int .i64 0, .int .i64 0, .int .i64 0, .float .f64 0, .string ⟨#[]⟩, .slice none 0 0, .slice none 0 0] 31) := ⟨_, rfl⟩
  have hK0 : Kept [] w w0 := by rw [hw0]; exact ((Kept.refl [] w).alloc _).alloc _
  have hs0 : w0.heap.size = w.heap.size + 2 := by rw [hw0]; simp
  have hX1 : w0.heap[w.heap.size]? = some (.cells #[.int .i64 k, .int .i64 i, .int .i64 g, .float .f64 r, .string s, .slice ka keys.length kc, .slice a kids.len cap] 31 (0, 0)) := by
    rw [hw0, heap_lt (by simp)]; exact heap_at rfl
  have hX2 : w0.heap[w.heap.size + 1]? = some (.cells #[.int .i64 0, .int .i64 0, .int .i64 0, .float .f64 0, .string ⟨#[]⟩, .slice none 0 0, .slice none 0 0] 31 (0, 0)) := by
    rw [hw0]; exact heap_at (by simp)
  obtain ⟨⟨c0, c1, c2, c3, c4, c5, c6⟩, _⟩ := seven hX1
  obtain ⟨⟨e0, e1, e2, e3, e4, e5, e6⟩, p0, p1, p2, p3, p4, p5, p6⟩ := seven hX2
  have hoff := cell_set_off
  have hkeys0 := hkeys.kept hK0 (ltk hN (by simp))
  have hkids0 := hkids.kept hK0 (ltk hN (by simp))
  have HKE := Lib.hid hkeys0; have HKI := Lib.hid hkids0; have HNZ := Lib.hid hnz; have HLE := Lib.hid hlen; clear hX1 hX2 hkeys hkids hkeys0 hkids0 hnz hs0 hlen
  go_enter Tryz.func12, Tryz.ntmps12
  go_upto_region 1 with fail
  rw [← hw0]
  clear hw0
  go_wp2_with fail
  go_loopw [6, 7, 11] (fun _ _ v wr => EnL w0 key keys v wr) (fun _ _ v _ => keys.length - (intOf v).toNat)
  case atStart => exact ⟨0, by omega, rfl, by omega, rfl⟩
  case round =>
    obtain ⟨j, hj, rfl, hs, rfl⟩ := hrel
    have HS := Lib.hid hs; clear hs
    by_cases hlt : j < keys.length
    · obtain ⟨b, o, rfl, hbN, hc, hsz⟩ := HKE.out.2.2 j hlt
      by_cases hkey : keys[j] = key
      · have zk : (keys[j].toList == key.toList) = true := beq_of hkey
        have hmem : key ∈ keys := hkey ▸ List.getElem_mem hlt
        have HM := Lib.hid hmem
        clear hkey hmem
        obtain ⟨b2, o2, k', i', g', r', s', keys', kids', ka', kc', a', cap', rfl, hbN2, hd, hcs, hnode⟩ := HKI.out.at (j := j) (by have := HLE.out; omega)
        have hjk : j < kids.len := by have := HLE.out; omega
        rw [Nat.mul_comm 7 j] at hcs
        obtain ⟨d0, d1, d2, d3, d4, d5, d6⟩ := hcs
        have hk0 : k' ≠ 0 := HNZ.out.at hd
        have zk0 : (k' != 0) = true := bne_iff_ne.2 hk0
        have HK0 := Lib.hid hk0; clear hk0 hnode hd
        have r0 := fun (X : World) (i j : Nat) (u : Value) => cell_set_other (show w.heap.size + 1 ≠ w.heap.size by omega) i j X u
        have r1 := fun (X : World) (i j : Nat) (u : Value) => cell_set_other (show w.heap.size + 1 ≠ b2 by unfold Lt at hbN2; omega) i j X u
        go_wp2_with fail
        go_region
        go_wp2_with fail
        refine bodyPost_ret (v := .tuple #[.agg #[.int .i64 k', .int .i64 i', .int .i64 g', .float .f64 r', .string s', .slice ka' keys'.length kc', .slice a' kids'.len cap'], .bool true]) (by simp [results, Tryz.results12, go_sem, hoff, e0, e1, e2, e3, e4, e5, e6]) rfl ?_
        exact ⟨by first | exact (kept7 hK0 (.inl (by omega)) _ _ _ _ _ _ _).drew | exact kept7 hK0.drew (.inl (by omega)) _ _ _ _ _ _ _, k', i', g', r', s', _, _, _, _, _, _, true, rfl, ⟨fun _ => HM.out, fun _ => rfl⟩⟩
      · have zk : (keys[j].toList == key.toList) = false := beq_not hkey
        have HKY := Lib.hid hkey; clear hkey
        go_wp2_with fail
        exact ⟨⟨j + 1, by omega, by go_num, fun x hx hxj => by
          by_cases e : x = j
          · subst e; exact HKY.out
          · exact HS.out x hx (by omega), rfl⟩, by simp [intOf]; omega⟩
    · have hno : key ∉ keys := fun hm => by
        obtain ⟨n, hn, h⟩ := List.getElem_of_mem hm
        exact HS.out n hn (by omega) h
      have HNO := Lib.hid hno; clear hno
      go_wp2_with fail
      refine bodyPost_ret (v := .tuple #[.agg #[.int .i64 0, .int .i64 0, .int .i64 0, .float .f64 0, .string ⟨#[]⟩, .slice none 0 0, .slice none 0 0], .bool false]) (by simp [results, Tryz.results12, go_sem, hoff, e0, e1, e2, e3, e4, e5, e6]) rfl ?_
      exact ⟨kept7 hK0 (.inl (by omega)) _ _ _ _ _ _ _, 0, 0, 0, 0, ⟨#[]⟩, _, _, _, _, _, _, false, rfl, ⟨fun h => (by cases h), fun h => absurd h HNO.out⟩⟩
end Go.Proofs.YtfkecmlmnhbmoaaGreatDoor
namespace Go.Proofs.YtfkecmlmnhbmoaaGreatDoor
open Go.RowKit
set_option maxRecDepth 100000 in
set_option maxHeartbeats 3000000 in
theorem decode (s : ByteArray) (w : World) (hs : Simp s) (hz : s.size ≤ 140737488355000) : Calls Tryz.prog 73 #[.string s] w fun e w' => e = .returned (.tuple #[.string s, .nilIface]) ∧ Kept [] w w' := by
  have HS := Lib.hid hs; clear hs
  go_enter Tryz.func73, Tryz.ntmps73
  go_wp2_with fail
  go_loopw [4, 6, 7] (fun v4 v _ wr => ∃ k : Nat, k ≤ s.size ∧ v4 = .bool false ∧ v = .int .i64 k ∧ Kept [] w wr) (fun _ v _ _ => s.size - (intOf v).toNat)
  case atStart => exact ⟨0, by omega, rfl, rfl, (Kept.refl _ _).alloc _⟩
  case round =>
    obtain ⟨k, hk, rfl, rfl, hK⟩ := hrel
    by_cases hlt : k < s.size
    · have hc := (s[k]'hlt).toNat_lt
      have ha := HS.out.ch k hlt
      unfold Alnum at ha
      have h0 : (s[k]'hlt).toNat ≠ 0 := by omega
      have h35 : (s[k]'hlt).toNat ≠ 35 := by omega
      clear ha
      go_wp2_with fail
      exact ⟨⟨k + 1, by omega, rfl, by go_num, hK⟩, by simp [intOf]; omega⟩
    · go_wp2_with fail
      go_ret2
      exact ⟨rfl, hK⟩
end Go.Proofs.YtfkecmlmnhbmoaaGreatDoor
