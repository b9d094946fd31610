import Derived.Test.YtfkecmlmnhbmoaaGreatDoorWn02
import Derived.Test.YtfkecmlmnhbmoaaGreatDoorWn03
namespace Go.Proofs.YtfkecmlmnhbmoaaGreatDoor
open Go.RowKit
set_option maxRecDepth 100000 in
set_option maxHeartbeats 1000000 in
theorem tells0 (g : Nat) (w : World) :
    Calls Tryz.prog 52 #[.slice (some ⟨g, 0, none⟩) 0 0] w fun e w' => e = .returned (.tuple #[.slice none 0 0, .bool true]) ∧ Kept [] w w' := by
  go_enter Tryz.func52, Tryz.ntmps52
  go_wp2_with fail
  refine wp_loop_once ?_
  go_wp2_with fail
  go_ret2
  exact ⟨rfl, Kept.refl _ _⟩
theorem cell_set_off (X : World) (b i j : Nat) (u : Value) (h : i ≠ j) : (X.setCell ⟨b, i, none⟩ u).cell? ⟨b, j, none⟩ = X.cell? ⟨b, j, none⟩ :=
  World.cell?_setCell_other _ _ _ _ (by intro e; simp only [Addr.mk.injEq] at e; exact h e.2.1)
theorem cells_new_at (w : World) (c : Array Value) (t n : Nat) (hn : n = w.heap.size) : ∀ (j : Nat) (u : Value), c.toList[j]? = some u → (w.alloc (.cells c t)).cell? ((⟨n, 0, none⟩ : Addr).add j) = some u := by
  intro j u h
  rw [Addr.add_lit, Nat.zero_add, World.cell?_alloc_at _ _ _ _ hn]
  simpa using h
theorem seven {w : World} {b t : Nat} {x0 x1 x2 x3 x4 x5 x6 : Value} (h : w.heap[b]? = some (.cells #[x0, x1, x2, x3, x4, x5, x6] t (0, 0))) :
    (w.cell? ⟨b, 0, none⟩ = some x0 ∧ w.cell? ⟨b, 1, none⟩ = some x1 ∧ w.cell? ⟨b, 2, none⟩ = some x2 ∧ w.cell? ⟨b, 3, none⟩ = some x3 ∧ w.cell? ⟨b, 4, none⟩ = some x4 ∧ w.cell? ⟨b, 5, none⟩ = some x5 ∧ w.cell? ⟨b, 6, none⟩ = some x6) ∧
    w.frozen? ⟨b, 0, none⟩ = false ∧ w.frozen? ⟨b, 1, none⟩ = false ∧ w.frozen? ⟨b, 2, none⟩ = false ∧ w.frozen? ⟨b, 3, none⟩ = false ∧ w.frozen? ⟨b, 4, none⟩ = false ∧ w.frozen? ⟨b, 5, none⟩ = false ∧ w.frozen? ⟨b, 6, none⟩ = false := by
  simp [World.cell?, World.frozen?, h]
theorem block_set {w : World} {b t : Nat} {c : Array Value} {f : Nat × Nat} (h : w.heap[b]? = some (.cells c t f)) (i : Nat) (u : Value) : (w.setCell ⟨b, i, none⟩ u).heap[b]? = some (.cells (c.setIfInBounds i u) t f) := by
  simp [World.setCell, Array.getElem?_modify, h]
theorem block7 {w : World} {b t : Nat} {x0 x1 x2 x3 x4 x5 x6 : Value} (h : w.heap[b]? = some (.cells #[x0, x1, x2, x3, x4, x5, x6] t (0, 0))) (u0 u1 u2 u3 u4 u5 u6 : Value) :
    (((((((w.setCell ⟨b, 0, none⟩ u0).setCell ⟨b, 1, none⟩ u1).setCell ⟨b, 2, none⟩ u2).setCell ⟨b, 3, none⟩ u3).setCell ⟨b, 4, none⟩ u4).setCell ⟨b, 5, none⟩ u5).setCell ⟨b, 6, none⟩ u6).heap[b]? = some (.cells #[u0, u1, u2, u3, u4, u5, u6] t (0, 0)) := by
  have h1 := block_set h 0 u0
  have h2 := block_set h1 1 u1
  have h3 := block_set h2 2 u2
  have h4 := block_set h3 3 u3
  have h5 := block_set h4 4 u4
  have h6 := block_set h5 5 u5
  have h7 := block_set h6 6 u6
  simpa using h7
theorem kept7 {X : List Nat} {a w : World} {b : Nat} (h : Kept X a w) (hb : a.heap.size ≤ b ∨ b ∈ X) (u0 u1 u2 u3 u4 u5 u6 : Value) : Kept X a (((((((w.setCell ⟨b, 0, none⟩ u0).setCell ⟨b, 1, none⟩ u1).setCell ⟨b, 2, none⟩ u2).setCell ⟨b, 3, none⟩ u3).setCell ⟨b, 4, none⟩ u4).setCell ⟨b, 5, none⟩ u5).setCell ⟨b, 6, none⟩ u6) :=
  ((((((h.setCell hb _).setCell hb _).setCell hb _).setCell hb _).setCell hb _).setCell hb _).setCell hb _
set_option maxRecDepth 100000 in
set_option maxHeartbeats 2000000 in
theorem tell_arr (a : Option Addr) (n c : Nat) (w : World)
    (h52 : ∀ W : World, Kept [] w W → Calls Tryz.prog 52 #[.slice a n c] W fun e w' => ∃ sa sn sc, e = .returned (.tuple #[.slice sa sn sc, .bool true]) ∧ Kept [] W w') :
    Calls Tryz.prog 31 #[.iface 70 (.slice a n c)] w fun e w' =>
      ∃ sa sn sc, e = .returned (.tuple #[.agg #[.int .i64 7, .int .i64 0, .int .i64 0, .float .f64 0, .string ⟨#[]⟩, .slice none 0 0, .slice sa sn sc], .bool true]) ∧ Kept [] w w' := by
  have H52 := Lib.hid h52; clear h52
  have m94 := Tryz.miss94; have m95 := Tryz.miss95; have m96 := Tryz.miss96; have m97 := Tryz.miss97; have m98 := Tryz.miss98; have m99 := Tryz.miss99; have m101 := Tryz.miss101
  have k70 := Tryz.hit70
  go_enter Tryz.func31, Tryz.ntmps31
  go_wp2_with fail
  refine (H52.out _ ((Kept.refl _ _).alloc _)).mono ?_
  rintro e w1 ⟨sa, sn, sc, rfl, hk⟩
  have hb := (hk.block w.heap.size (by simp) (by simp)).trans (heap_at rfl)
  obtain ⟨⟨c0, c1, c2, c3, c4, c5, c6⟩, f0, f1, f2, f3, f4, f5, f6⟩ := seven hb
  have hoff := cell_set_off
  have HK := Lib.hid hk; have HB := Lib.hid hb; clear hk hb m94 m95 m96 m97 m98 m99 m101 k70
  go_wp2_with fail
  refine bodyPost_ret (v := .tuple #[.agg #[.int .i64 7, .int .i64 0, .int .i64 0, .float .f64 0, .string ⟨#[]⟩, .slice none 0 0, .slice sa sn sc], .bool true]) (by simp [results, Tryz.results31, go_sem, hoff, c0, c1, c2, c3, c4, c5, c6]) rfl ⟨sa, sn, sc, rfl, ?_⟩
  have K1 : Kept [] w w1 := Kept.trans (Z := []) ((Kept.refl [] w).alloc _) HK.out (by simp) (by simp)
  exact ((((((K1.setCell (.inl (by simp)) _).setCell (.inl (by simp)) _).setCell (.inl (by simp)) _).setCell (.inl (by simp)) _).setCell (.inl (by simp)) _).setCell (.inl (by simp)) _).setCell (.inl (by simp)) _
theorem Tryz.info26 : (Tryz.prog.info? 26).map (fun i => (i.zero, i.size, i.bytes)) = some (some (.agg #[.int .i64 0, .int .i64 0, .int .i64 0, .float .f64 0, .string ⟨#[]⟩, .slice none 0 0, .slice none 0 0]), 7, 96) := by kernel_rfl
set_option maxRecDepth 100000 in
set_option maxHeartbeats 2000000 in
theorem tells1 (g cap : Nat) (x : Value) (w : World) (hx : w.cell? ⟨g, 0, none⟩ = some x) (va : Option Addr) (vn vc : Nat) (hxv : x = .iface 70 (.slice va vn vc))
    (h31 : ∀ W : World, Kept [] w W → Calls Tryz.prog 31 #[x] W fun e w' =>
      ∃ sa sn sc, e = .returned (.tuple #[.agg #[.int .i64 7, .int .i64 0, .int .i64 0, .float .f64 0, .string ⟨#[]⟩, .slice none 0 0, .slice sa sn sc], .bool true]) ∧ Kept [] W w') :
    Calls Tryz.prog 52 #[.slice (some ⟨g, 0, none⟩) 1 cap] w fun e w' => ∃ a n c, e = .returned (.tuple #[.slice a n c, .bool true]) ∧ Kept [] w w' := by
  subst hxv
  have H31 := Lib.hid h31; clear h31
  go_enter Tryz.func52, Tryz.ntmps52
  go_wp2_with fail
  refine wp_loop_rounds 2 ?_
  rw [rounds_succ]
  go_wp2_with fail
  refine (H31.out _ (Kept.refl _ _)).mono ?_
  rintro e w1 ⟨sa, sn, sc, rfl, hk⟩
  have HK := Lib.hid hk; clear hk
  obtain ⟨i0, hi, hz0, hz1, hz2⟩ := info_parts Tryz.info26
  have hown : w1.ownsRow w1.heap.size 26 7 (.slice none 0 0) 0 [] := ⟨rfl, Or.inl ⟨rfl, rfl⟩⟩
  go_wp2_with (at_builtin; go_must (refine wpList_append_own _ rfl _ _ 24 rfl w1.heap.size 26 i0 (.agg #[.int .i64 0, .int .i64 0, .int .i64 0, .float .f64 0, .string ⟨#[]⟩, .slice none 0 0, .slice none 0 0]) 7 96 Tryz.underlying24 hi hz0 hz1 hz2 rfl (by decide) _ 0 [] rfl ((hown.alloc _).alloc _) ⟨w1.heap.size + 1, 0, none⟩ 1 1 [.int .i64 7, .int .i64 0, .int .i64 0, .float .f64 0, .string ⟨#[]⟩, .slice none 0 0, .slice sa sn sc] rfl rfl ?c1 ?c2 ?c3 ?c4 ?c5 ?_))
  case c1 => exact cells_new_at _ _ _ _ (by simp)
  case c2 => simp [Value.oneCell']
  case c3 => decide
  case c4 => decide
  case c5 => first | rfl | omega | (simp only [World.size_alloc]; omega) | (simp only [World.size_alloc, World.size_setCell, World.size_drew]) | (simp; omega)
  intro v2 w2 hown2 hg2 _
  have hk2 : Kept [] w w2 := Kept.trans (Y := []) ((HK.out.alloc _).alloc _) (Kept.of_grown hg2 (fun k hk => by simp [Value.ownBlock] at hk)) (by simp) (by simp)
  obtain ⟨hlen, ho | ⟨g2, cap2, cur, hv2, hg3, hh, hcap1, hcap2, hcs, htk⟩⟩ := hown2
  · exact absurd ho.2 (by decide)
  subst hv2
  have HK2 := Lib.hid hk2
  clear hk2 hg2 hown hlen hh hcs htk hi hz0 hz1 hz2 hg3 hcap1 hcap2 hx
  go_wp2_with fail
  rw [rounds_succ]
  go_wp2_with fail
  go_ret2
  exact ⟨_, _, _, rfl, HK2.out⟩
theorem tell_nest : ∀ (k B : Nat) (v : Value) (w : World), Nest w B k v → 
    Calls Tryz.prog 31 #[v] w fun e w' =>
      ∃ sa sn sc, e = .returned (.tuple #[.agg #[.int .i64 7, .int .i64 0, .int .i64 0, .float .f64 0, .string ⟨#[]⟩, .slice none 0 0, .slice sa sn sc], .bool true]) ∧ Kept [] w w'
  | 0, B, v, w, ⟨g, _, hv⟩ => by
    subst hv
    exact tell_arr _ _ _ w (fun W hW => (tells0 g W).mono fun e w' h => ⟨_, _, _, h.1, h.2⟩)
  | k + 1, B, v, w, ⟨g, cap, x, h1, h2, h3, h4, h5⟩ => by
    subst h3
    obtain ⟨va, vn, vc, hx⟩ := h5.iface
    exact tell_arr _ _ _ w (fun W hW => tells1 g cap x W ((hW.cell h2 (by simp)).trans h4) va vn vc hx (fun W' hW' =>
      tell_nest k B x W' ((h5.kept hW (by simp)).kept hW' (by simp))))
end Go.Proofs.YtfkecmlmnhbmoaaGreatDoor
namespace Go.Proofs.YtfkecmlmnhbmoaaGreatDoor
open Go.RowKit
/-- Objects (or values) beside one another: a node's numbers, its real, its text, its keys, its parts; and what stands behind it. -/
inductive F where
  | nil
  | cons (k i g : Int) (r : Nat) (s : ByteArray) (keys : List ByteArray) (kids rest : F)
def F.len : F → Nat
  | .nil => 0
  | .cons _ _ _ _ _ _ _ rest => rest.len + 1
def F.size : F → Nat
  | .nil => 0
  | .cons _ _ _ _ _ _ kids rest => kids.size + rest.size + 1
def F.drop : Nat → F → F
  | 0, f => f
  | _ + 1, .nil => .nil
  | n + 1, .cons _ _ _ _ _ _ _ rest => rest.drop n
theorem F.drop_nil : ∀ n, F.drop n .nil = .nil
  | 0 => rfl
  | _ + 1 => rfl
theorem F.drop_lt : ∀ {f : F} {n : Nat}, n < f.len → ∃ k i g r s keys kids, f.drop n = .cons k i g r s keys kids (f.drop (n + 1))
  | .nil, _, h => by simp [F.len] at h
  | .cons k i g r s keys kids rest, 0, _ => ⟨k, i, g, r, s, keys, kids, rfl⟩
  | .cons _ _ _ _ _ _ _ rest, n + 1, h => F.drop_lt (f := rest) (by simpa [F.len] using h)
theorem F.len_drop : ∀ (n : Nat) (f : F), (f.drop n).len = f.len - n
  | 0, f => by simp [F.drop]
  | n + 1, .nil => by simp [F.drop, F.len]
  | n + 1, .cons _ _ _ _ _ _ _ rest => by simp [F.drop, F.len, F.len_drop n rest]
theorem F.len_size : ∀ f : F, f.len ≤ f.size
  | .nil => Nat.le_refl _
  | .cons _ _ _ _ _ _ kids rest => by have := F.len_size rest; simp [F.len, F.size]; omega
theorem F.len_zero : ∀ {f : F}, f.len = 0 → f = .nil
  | .nil, _ => rfl
/-- A whole number of 64 bits. -/
structure I64 (x : Int) : Prop where
  lo : -9223372036854775808 ≤ x
  hi : x ≤ 9223372036854775807
/-- A node's own fields are in their ranges. -/
structure Fld (k i g : Int) (r : Nat) (s : ByteArray) : Prop where
  k : I64 k
  i : I64 i
  g : I64 g
  r : r < 18446744073709551616
  s : s.size ≤ 140737488351232
/-- Below the block N. -/
def Lt (N : Nat) : Nat → Prop := fun b => b < N
theorem ltk {N : Nat} {w : World} {X : List Nat} (hN : N ≤ w.heap.size) (hX : ∀ x ∈ X, N ≤ x) : ∀ b, Lt N b → b < w.heap.size ∧ b ∉ X := fun b hb => ⟨Nat.lt_of_lt_of_le hb hN, fun hm => by have := hX _ hm; unfold Lt at hb; omega⟩
/-- A slice of strings, in blocks of a kind. -/
def KeysIn (P : Nat → Prop) (w : World) (a : Option Addr) (cap : Nat) (ks : List ByteArray) : Prop :=
  ks.length ≤ cap ∧ ks.length * 16 ≤ 140737488355328 ∧ ∀ i (h : i < ks.length), ∃ b o, a = some ⟨b, o, none⟩ ∧ P b ∧ w.cell? ⟨b, o + i, none⟩ = some (.string ks[i]) ∧ ks[i].size ≤ 140737488351232
/-- Objects in rows of seven cells, from a place on. -/
def In (P : Nat → Prop) (w : World) : F → Nat → Nat → Prop
  | .nil, _, _ => True
  | .cons k i g r s keys kids rest, b, o => (∃ ka kc a cap,
      (w.cell? ⟨b, o, none⟩ = some (.int .i64 k) ∧ w.cell? ⟨b, o + 1, none⟩ = some (.int .i64 i) ∧ w.cell? ⟨b, o + 2, none⟩ = some (.int .i64 g) ∧ w.cell? ⟨b, o + 3, none⟩ = some (.float .f64 r) ∧
        w.cell? ⟨b, o + 4, none⟩ = some (.string s) ∧ w.cell? ⟨b, o + 5, none⟩ = some (.slice ka keys.length kc) ∧ w.cell? ⟨b, o + 6, none⟩ = some (.slice a kids.len cap)) ∧
      Fld k i g r s ∧ KeysIn P w ka kc keys ∧ (kids.len ≤ cap ∧ kids.len * 96 ≤ 140737488355328 ∧ (kids.len = 0 ∨ ∃ b' o', a = some ⟨b', o', none⟩ ∧ P b' ∧ In P w kids b' o'))) ∧ In P w rest b (o + 7)
/-- A slice of objects, in blocks of a kind. -/
def Kids (P : Nat → Prop) (w : World) (a : Option Addr) (cap : Nat) (f : F) : Prop := f.len ≤ cap ∧ f.len * 96 ≤ 140737488355328 ∧ (f.len = 0 ∨ ∃ b o, a = some ⟨b, o, none⟩ ∧ P b ∧ In P w f b o)
/-- A node by value. -/
structure Node (P : Nat → Prop) (w : World) (k i g : Int) (r : Nat) (s : ByteArray) (keys : List ByteArray) (kids : F) (ka : Option Addr) (kc : Nat) (a : Option Addr) (cap : Nat) : Prop where
  fld : Fld k i g r s
  keys : KeysIn P w ka kc keys
  kids : Kids P w a cap kids
/-- Its seven cells. -/
structure Cells7 (w : World) (b o : Nat) (k i g : Int) (r : Nat) (s : ByteArray) (v5 v6 : Value) : Prop where
  c0 : w.cell? ⟨b, o, none⟩ = some (.int .i64 k)
  c1 : w.cell? ⟨b, o + 1, none⟩ = some (.int .i64 i)
  c2 : w.cell? ⟨b, o + 2, none⟩ = some (.int .i64 g)
  c3 : w.cell? ⟨b, o + 3, none⟩ = some (.float .f64 r)
  c4 : w.cell? ⟨b, o + 4, none⟩ = some (.string s)
  c5 : w.cell? ⟨b, o + 5, none⟩ = some v5
  c6 : w.cell? ⟨b, o + 6, none⟩ = some v6
theorem In.cons {P : Nat → Prop} {w : World} {k i g : Int} {r : Nat} {s : ByteArray} {keys : List ByteArray} {kids rest : F} {b o : Nat} (h : In P w (.cons k i g r s keys kids rest) b o) :
    (∃ ka kc a cap, Cells7 w b o k i g r s (.slice ka keys.length kc) (.slice a kids.len cap) ∧ Node P w k i g r s keys kids ka kc a cap) ∧ In P w rest b (o + 7) := by
  obtain ⟨⟨ka, kc, a, cap, ⟨h0, h1, h2, h3, h4, h5, h6⟩, hf, hk, hn⟩, hr⟩ := h
  exact ⟨⟨ka, kc, a, cap, ⟨h0, h1, h2, h3, h4, h5, h6⟩, ⟨hf, hk, hn⟩⟩, hr⟩
theorem In.mk {P : Nat → Prop} {w : World} {k i g : Int} {r : Nat} {s : ByteArray} {keys : List ByteArray} {kids rest : F} {b o : Nat} {ka : Option Addr} {kc : Nat} {a : Option Addr} {cap : Nat}
    (hc : Cells7 w b o k i g r s (.slice ka keys.length kc) (.slice a kids.len cap)) (hn : Node P w k i g r s keys kids ka kc a cap) (hr : In P w rest b (o + 7)) : In P w (.cons k i g r s keys kids rest) b o :=
  ⟨⟨ka, kc, a, cap, ⟨hc.c0, hc.c1, hc.c2, hc.c3, hc.c4, hc.c5, hc.c6⟩, hn.fld, hn.keys, hn.kids⟩, hr⟩
theorem In.drop {P : Nat → Prop} {w : World} {b : Nat} : ∀ (n : Nat) {f : F} {o : Nat}, In P w f b o → In P w (f.drop n) b (o + 7 * n)
  | 0, _, _, h => h
  | n + 1, .nil, _, _ => trivial
  | n + 1, .cons _ _ _ _ _ _ _ rest, o, h => by
    have := In.drop n (f := rest) h.2
    rwa [show o + 7 + 7 * n = o + 7 * (n + 1) by omega] at this
theorem KeysIn.kept {P : Nat → Prop} {w w' : World} {a : Option Addr} {cap : Nat} {ks : List ByteArray} {X : List Nat} (h : KeysIn P w a cap ks) (hk : Kept X w w') (hP : ∀ b, P b → b < w.heap.size ∧ b ∉ X) : KeysIn P w' a cap ks :=
  ⟨h.1, h.2.1, fun i hi => by
    obtain ⟨b, o, ha, hb, hc, hs⟩ := h.2.2 i hi
    exact ⟨b, o, ha, hb, (hk.cell (hP _ hb).1 (hP _ hb).2).trans hc, hs⟩⟩
theorem In.kept {P : Nat → Prop} {w w' : World} {X : List Nat} (hk : Kept X w w') (hP : ∀ b, P b → b < w.heap.size ∧ b ∉ X) : ∀ {f : F} {b o : Nat}, P b → In P w f b o → In P w' f b o
  | .nil, _, _, _, _ => trivial
  | .cons k i g r s keys kids rest, b, o, hb, ⟨⟨ka, kc, a, cap, ⟨h0, h1, h2, h3, h4, h5, h6⟩, hf, hks, hn1, hn2, hn3⟩, hr⟩ => by
    have c : ∀ j, w'.cell? ⟨b, j, none⟩ = w.cell? ⟨b, j, none⟩ := fun j => hk.cell (hP _ hb).1 (hP _ hb).2
    refine ⟨⟨ka, kc, a, cap, ⟨(c _).trans h0, (c _).trans h1, (c _).trans h2, (c _).trans h3, (c _).trans h4, (c _).trans h5, (c _).trans h6⟩, hf, hks.kept hk hP, hn1, hn2, ?_⟩, In.kept hk hP hb hr⟩
    rcases hn3 with h | ⟨b', o', ha, hb', hi⟩
    · exact .inl h
    · exact .inr ⟨b', o', ha, hb', In.kept hk hP hb' hi⟩
theorem Kids.kept {P : Nat → Prop} {w w' : World} {X : List Nat} {a : Option Addr} {cap : Nat} {f : F} (h : Kids P w a cap f) (hk : Kept X w w') (hP : ∀ b, P b → b < w.heap.size ∧ b ∉ X) : Kids P w' a cap f := by
  refine ⟨h.1, h.2.1, ?_⟩
  rcases h.2.2 with h | ⟨b', o', ha, hb', hi⟩
  · exact .inl h
  · exact .inr ⟨b', o', ha, hb', In.kept hk hP hb' hi⟩
theorem Node.kept {P : Nat → Prop} {w w' : World} {X : List Nat} {k i g : Int} {r : Nat} {s : ByteArray} {keys : List ByteArray} {kids : F} {ka : Option Addr} {kc : Nat} {a : Option Addr} {cap : Nat}
    (h : Node P w k i g r s keys kids ka kc a cap) (hk : Kept X w w') (hP : ∀ b, P b → b < w.heap.size ∧ b ∉ X) : Node P w' k i g r s keys kids ka kc a cap :=
  ⟨h.fld, h.keys.kept hk hP, h.kids.kept hk hP⟩
theorem KeysIn.mono {P Q : Nat → Prop} (hM : ∀ b, P b → Q b) {w : World} {a : Option Addr} {cap : Nat} {ks : List ByteArray} (h : KeysIn P w a cap ks) : KeysIn Q w a cap ks :=
  ⟨h.1, h.2.1, fun i hi => by obtain ⟨b, o, ha, hb, hc⟩ := h.2.2 i hi; exact ⟨b, o, ha, hM _ hb, hc⟩⟩
theorem In.mono {P Q : Nat → Prop} (hM : ∀ b, P b → Q b) {w : World} : ∀ {f : F} {b o : Nat}, In P w f b o → In Q w f b o
  | .nil, _, _, _ => trivial
  | .cons k i g r s keys kids rest, b, o, ⟨⟨ka, kc, a, cap, hc, hf, hks, hn1, hn2, hn3⟩, hr⟩ => by
    refine ⟨⟨ka, kc, a, cap, hc, hf, hks.mono hM, hn1, hn2, ?_⟩, In.mono hM hr⟩
    rcases hn3 with h | ⟨b', o', ha, hb', hi⟩
    · exact .inl h
    · exact .inr ⟨b', o', ha, hM _ hb', In.mono hM hi⟩
theorem Kids.mono {P Q : Nat → Prop} (hM : ∀ b, P b → Q b) {w : World} {a : Option Addr} {cap : Nat} {f : F} (h : Kids P w a cap f) : Kids Q w a cap f := by
  refine ⟨h.1, h.2.1, ?_⟩
  rcases h.2.2 with h | ⟨b', o', ha, hb', hi⟩
  · exact .inl h
  · exact .inr ⟨b', o', ha, hM _ hb', In.mono hM hi⟩
theorem Node.mono {P Q : Nat → Prop} (hM : ∀ b, P b → Q b) {w : World} {k i g : Int} {r : Nat} {s : ByteArray} {keys : List ByteArray} {kids : F} {ka : Option Addr} {kc : Nat} {a : Option Addr} {cap : Nat}
    (h : Node P w k i g r s keys kids ka kc a cap) : Node Q w k i g r s keys kids ka kc a cap := ⟨h.fld, h.keys.mono hM, h.kids.mono hM⟩
/-- What a slice of objects has at a place. -/
theorem Kids.at {P : Nat → Prop} {w : World} {a : Option Addr} {cap : Nat} {f : F} (h : Kids P w a cap f) {j : Nat} (hj : j < f.len) :
    ∃ b o k i g r s keys kids ka kc a' cap', a = some ⟨b, o, none⟩ ∧ P b ∧ f.drop j = .cons k i g r s keys kids (f.drop (j + 1)) ∧ Cells7 w b (o + 7 * j) k i g r s (.slice ka keys.length kc) (.slice a' kids.len cap') ∧ Node P w k i g r s keys kids ka kc a' cap' := by
  obtain ⟨k, i, g, r, s, keys, kids, hd⟩ := F.drop_lt hj
  rcases h.2.2 with h0 | ⟨b, o, ha, hb, hi⟩
  · omega
  · have h2 := hi.drop j
    rw [hd] at h2
    obtain ⟨⟨ka, kc, a', cap', hc, hn⟩, _⟩ := h2.cons
    exact ⟨b, o, k, i, g, r, s, keys, kids, ka, kc, a', cap', ha, hb, hd, hc, hn⟩
/-- Something holds of each node of a forest (not of the nodes within them). -/
def AllN (C : Int → Int → Int → Nat → ByteArray → List ByteArray → F → Prop) : F → Prop
  | .nil => True
  | .cons k i g r s keys kids rest => C k i g r s keys kids ∧ AllN C rest
theorem AllN.drop {C : Int → Int → Int → Nat → ByteArray → List ByteArray → F → Prop} : ∀ (n : Nat) {f : F}, AllN C f → AllN C (f.drop n)
  | 0, _, h => h
  | _ + 1, .nil, _ => trivial
  | n + 1, .cons _ _ _ _ _ _ _ rest, h => AllN.drop n (f := rest) h.2
theorem AllN.at {C : Int → Int → Int → Nat → ByteArray → List ByteArray → F → Prop} {f : F} (h : AllN C f) {j : Nat} {k i g : Int} {r : Nat} {s : ByteArray} {keys : List ByteArray} {kids rest : F} (hd : f.drop j = .cons k i g r s keys kids rest) : C k i g r s keys kids := by
  have := h.drop j
  rw [hd] at this
  exact this.1
/-- What holds of a node if it holds of those within it holds of all. -/
theorem AllN.all {C : Int → Int → Int → Nat → ByteArray → List ByteArray → F → Prop} (h : ∀ k i g r s keys kids, AllN C kids → C k i g r s keys kids) : ∀ f, AllN C f
  | .nil => trivial
  | .cons k i g r s keys kids rest => ⟨h k i g r s keys kids (AllN.all h kids), AllN.all h rest⟩
theorem AllN.node {C : Int → Int → Int → Nat → ByteArray → List ByteArray → F → Prop} (h : ∀ k i g r s keys kids, AllN C kids → C k i g r s keys kids) (k i g : Int) (r : Nat) (s : ByteArray) (keys : List ByteArray) (kids : F) : C k i g r s keys kids :=
  (AllN.all h (.cons k i g r s keys kids .nil)).1
end Go.Proofs.YtfkecmlmnhbmoaaGreatDoor
