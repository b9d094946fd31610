import Derived.Test.YtfkecmlmnhbmoaaGreatDoorDk
import Derived.Test.YtfkecmlmnhbmoaaGreatDoorTa
namespace Go.Proofs.YtfkecmlmnhbmoaaGreatDoor
open Go.RowKit
set_option maxRecDepth 100000 in
set_option maxHeartbeats 1000000 in
theorem tells0 (g : Nat) (w : World) :
    Calls Tryz.prog 52 #[.slice (some ⟨g, 0, none⟩) 0 0] w fun e w' => e = .returned (.tuple #[.slice none 0 0, .bool true]) ∧ Kept [] w w' := by
  go_enter Tryz.func52, Tryz.ntmps52
  go_wp2_with fail
  refine wp_loop_once ?_
  go_wp2_with fail
  go_ret2
  exact ⟨rfl, Kept.refl _ _⟩
theorem cell_set_off (X : World) (b i j : Nat) (u : Value) (h : i ≠ j) : (X.setCell ⟨b, i, none⟩ u).cell? ⟨b, j, none⟩ = X.cell? ⟨b, j, none⟩ :=
  World.cell?_setCell_other _ _ _ _ (by intro e; simp only [Addr.mk.injEq] at e; exact h e.2.1)
theorem cells_new_at (w : World) (c : Array Value) (t n : Nat) (hn : n = w.heap.size) : ∀ (j : Nat) (u : Value), c.toList[j]? = some u → (w.alloc (.cells c t)).cell? ((⟨n, 0, none⟩ : Addr).add j) = some u := by
  intro j u h
  rw [Addr.add_lit, Nat.zero_add, World.cell?_alloc_at _ _ _ _ hn]
  simpa using h
theorem seven {w : World} {b t : Nat} {x0 x1 x2 x3 x4 x5 x6 : Value} (h : w.heap[b]? = some (.cells #[x0, x1, x2, x3, x4, x5, x6] t (0, 0))) :
    (w.cell? ⟨b, 0, none⟩ = some x0 ∧ w.cell? ⟨b, 1, none⟩ = some x1 ∧ w.cell? ⟨b, 2, none⟩ = some x2 ∧ w.cell? ⟨b, 3, none⟩ = some x3 ∧ w.cell? ⟨b, 4, none⟩ = some x4 ∧ w.cell? ⟨b, 5, none⟩ = some x5 ∧ w.cell? ⟨b, 6, none⟩ = some x6) ∧
    w.frozen? ⟨b, 0, none⟩ = false ∧ w.frozen? ⟨b, 1, none⟩ = false ∧ w.frozen? ⟨b, 2, none⟩ = false ∧ w.frozen? ⟨b, 3, none⟩ = false ∧ w.frozen? ⟨b, 4, none⟩ = false ∧ w.frozen? ⟨b, 5, none⟩ = false ∧ w.frozen? ⟨b, 6, none⟩ = false := by
  simp [World.cell?, World.frozen?, h]
theorem block_set {w : World} {b t : Nat} {c : Array Value} {f : Nat × Nat} (h : w.heap[b]? = some (.cells c t f)) (i : Nat) (u : Value) : (w.setCell ⟨b, i, none⟩ u).heap[b]? = some (.cells (c.setIfInBounds i u) t f) := by
  simp [World.setCell, Array.getElem?_modify, h]
theorem block7 {w : World} {b t : Nat} {x0 x1 x2 x3 x4 x5 x6 : Value} (h : w.heap[b]? = some (.cells #[x0, x1, x2, x3, x4, x5, x6] t (0, 0))) (u0 u1 u2 u3 u4 u5 u6 : Value) :
    (((((((w.setCell ⟨b, 0, none⟩ u0).setCell ⟨b, 1, none⟩ u1).setCell ⟨b, 2, none⟩ u2).setCell ⟨b, 3, none⟩ u3).setCell ⟨b, 4, none⟩ u4).setCell ⟨b, 5, none⟩ u5).setCell ⟨b, 6, none⟩ u6).heap[b]? = some (.cells #[u0, u1, u2, u3, u4, u5, u6] t (0, 0)) := by
  have h1 := block_set h 0 u0
  have h2 := block_set h1 1 u1
  have h3 := block_set h2 2 u2
  have h4 := block_set h3 3 u3
  have h5 := block_set h4 4 u4
  have h6 := block_set h5 5 u5
  have h7 := block_set h6 6 u6
  simpa using h7
theorem kept7 {X : List Nat} {a w : World} {b : Nat} (h : Kept X a w) (hb : a.heap.size ≤ b ∨ b ∈ X) (u0 u1 u2 u3 u4 u5 u6 : Value) : Kept X a (((((((w.setCell ⟨b, 0, none⟩ u0).setCell ⟨b, 1, none⟩ u1).setCell ⟨b, 2, none⟩ u2).setCell ⟨b, 3, none⟩ u3).setCell ⟨b, 4, none⟩ u4).setCell ⟨b, 5, none⟩ u5).setCell ⟨b, 6, none⟩ u6) :=
  ((((((h.setCell hb _).setCell hb _).setCell hb _).setCell hb _).setCell hb _).setCell hb _).setCell hb _
set_option maxRecDepth 100000 in
set_option maxHeartbeats 2000000 in
theorem tell_arr (a : Option Addr) (n c : Nat) (w : World)
    (h52 : ∀ W : World, Kept [] w W → Calls Tryz.prog 52 #[.slice a n c] W fun e w' => ∃ sa sn sc, e = .returned (.tuple #[.slice sa sn sc, .bool true]) ∧ Kept [] W w') :
    Calls Tryz.prog 31 #[.iface 70 (.slice a n c)] w fun e w' =>
      ∃ sa sn sc, e = .returned (.tuple #[.agg #[.int .i64 7, .int .i64 0, .int .i64 0, .float .f64 0, .string ⟨#[]⟩, .slice none 0 0, .slice sa sn sc], .bool true]) ∧ Kept [] w w' := by
  have H52 := Lib.hid h52; clear h52
  have m94 := Tryz.miss94; have m95 := Tryz.miss95; have m96 := Tryz.miss96; have m97 := Tryz.miss97; have m98 := Tryz.miss98; have m99 := Tryz.miss99; have m101 := Tryz.miss101
  have k70 := Tryz.hit70
  go_enter Tryz.func31, Tryz.ntmps31
  go_wp2_with fail
  refine (H52.out _ ((Kept.refl _ _).alloc _)).mono ?_
  rintro e w1 ⟨sa, sn, sc, rfl, hk⟩
  have hb := (hk.block w.heap.size (by simp) (by simp)).trans (heap_at rfl)
  obtain ⟨⟨c0, c1, c2, c3, c4, c5, c6⟩, f0, f1, f2, f3, f4, f5, f6⟩ := seven hb
  have hoff := cell_set_off
  have HK := Lib.hid hk; have HB := Lib.hid hb; clear hk hb m94 m95 m96 m97 m98 m99 m101 k70
  go_wp2_with fail
  refine bodyPost_ret (v := .tuple #[.agg #[.int .i64 7, .int .i64 0, .int .i64 0, .float .f64 0, .string ⟨#[]⟩, .slice none 0 0, .slice sa sn sc], .bool true]) (by simp [results, Tryz.results31, go_sem, hoff, c0, c1, c2, c3, c4, c5, c6]) rfl ⟨sa, sn, sc, rfl, ?_⟩
  have K1 : Kept [] w w1 := Kept.trans (Z := []) ((Kept.refl [] w).alloc _) HK.out (by simp) (by simp)
  exact ((((((K1.setCell (.inl (by simp)) _).setCell (.inl (by simp)) _).setCell (.inl (by simp)) _).setCell (.inl (by simp)) _).setCell (.inl (by simp)) _).setCell (.inl (by simp)) _).setCell (.inl (by simp)) _
theorem Tryz.info26 : (Tryz.prog.info? 26).map (fun i => (i.zero, i.size, i.bytes)) = some (some (.agg #[.int .i64 0, .int .i64 0, .int .i64 0, .float .f64 0, .string ⟨#[]⟩, .slice none 0 0, .slice none 0 0]), 7, 96) := by kernel_rfl
set_option maxRecDepth 100000 in
set_option maxHeartbeats 2000000 in
theorem tells1 (g cap : Nat) (x : Value) (w : World) (hx : w.cell? ⟨g, 0, none⟩ = some x) (va : Option Addr) (vn vc : Nat) (hxv : x = .iface 70 (.slice va vn vc))
    (h31 : ∀ W : World, Kept [] w W → Calls Tryz.prog 31 #[x] W fun e w' =>
      ∃ sa sn sc, e = .returned (.tuple #[.agg #[.int .i64 7, .int .i64 0, .int .i64 0, .float .f64 0, .string ⟨#[]⟩, .slice none 0 0, .slice sa sn sc], .bool true]) ∧ Kept [] W w') :
    Calls Tryz.prog 52 #[.slice (some ⟨g, 0, none⟩) 1 cap] w fun e w' => ∃ a n c, e = .returned (.tuple #[.slice a n c, .bool true]) ∧ Kept [] w w' := by
  subst hxv
  have H31 := Lib.hid h31; clear h31
  go_enter Tryz.func52, Tryz.ntmps52
  go_wp2_with fail
  refine wp_loop_rounds 2 ?_
  rw [rounds_succ]
  go_wp2_with fail
  refine (H31.out _ (Kept.refl _ _)).mono ?_
  rintro e w1 ⟨sa, sn, sc, rfl, hk⟩
  have HK := Lib.hid hk; clear hk
  obtain ⟨i0, hi, hz0, hz1, hz2⟩ := info_parts Tryz.info26
  have hown : w1.ownsRow w1.heap.size 26 7 (.slice none 0 0) 0 [] := ⟨rfl, Or.inl ⟨rfl, rfl⟩⟩
  go_wp2_with (at_builtin; go_must (refine wpList_append_own _ rfl _ _ 24 rfl w1.heap.size 26 i0 (.agg #[.int .i64 0, .int .i64 0, .int .i64 0, .float .f64 0, .string ⟨#[]⟩, .slice none 0 0, .slice none 0 0]) 7 96 Tryz.underlying24 hi hz0 hz1 hz2 rfl (by decide) _ 0 [] rfl ((hown.alloc _).alloc _) ⟨w1.heap.size + 1, 0, none⟩ 1 1 [.int .i64 7, .int .i64 0, .int .i64 0, .float .f64 0, .string ⟨#[]⟩, .slice none 0 0, .slice sa sn sc] rfl rfl ?c1 ?c2 ?c3 ?c4 ?c5 ?_))
  case c1 => exact cells_new_at _ _ _ _ (by simp)
  case c2 => simp [Value.oneCell']
  case c3 => decide
  case c4 => decide
  case c5 => first | rfl | omega | (simp only [World.size_alloc, World.size_setCell, World.size_drew]; omega) | (simp only [World.size_alloc, World.size_setCell, World.size_drew]) | (simp; omega)
  intro v2 w2 hown2 hg2 _
  have hk2 : Kept [] w w2 := Kept.trans (Y := []) ((HK.out.alloc _).alloc _) (Kept.of_grown hg2 (fun k hk => by simp [Value.ownBlock] at hk)) (by simp) (by simp)
  obtain ⟨hlen, ho | ⟨g2, cap2, cur, hv2, hg3, hh, hcap1, hcap2, hcs, htk⟩⟩ := hown2
  · exact absurd ho.2 (by decide)
  subst hv2
  have HK2 := Lib.hid hk2
  clear hk2 hg2 hown hlen hh hcs htk hi hz0 hz1 hz2 hg3 hcap1 hcap2 hx
  go_wp2_with fail
  rw [rounds_succ]
  go_wp2_with fail
  go_ret2
  exact ⟨_, _, _, rfl, HK2.out⟩
theorem tell_nest : ∀ (k B : Nat) (v : Value) (w : World), Nest w B k v → 
    Calls Tryz.prog 31 #[v] w fun e w' =>
      ∃ sa sn sc, e = .returned (.tuple #[.agg #[.int .i64 7, .int .i64 0, .int .i64 0, .float .f64 0, .string ⟨#[]⟩, .slice none 0 0, .slice sa sn sc], .bool true]) ∧ Kept [] w w'
  | 0, B, v, w, ⟨g, _, hv⟩ => by
    subst hv
    exact tell_arr _ _ _ w (fun W hW => (tells0 g W).mono fun e w' h => ⟨_, _, _, h.1, h.2⟩)
  | k + 1, B, v, w, ⟨g, cap, x, h1, h2, h3, h4, h5⟩ => by
    subst h3
    obtain ⟨va, vn, vc, hx⟩ := h5.iface
    exact tell_arr _ _ _ w (fun W hW => tells1 g cap x W ((hW.cell h2 (by simp)).trans h4) va vn vc hx (fun W' hW' =>
      tell_nest k B x W' ((h5.kept hW (by simp)).kept hW' (by simp))))
end Go.Proofs.YtfkecmlmnhbmoaaGreatDoor
