import Derived.LaidEql
import Derived.Stop.Asserts
import Derived.RowKitTokens
import Derived.Test.YtfkecmlmnhbmoaaGreatDoorFk01
import Derived.Test.YtfkecmlmnhbmoaaGreatDoorFk03
namespace Go.Proofs.YtfkecmlmnhbmoaaGreatDoor
open Go.RowKit
theorem cell_set_off (X : World) (b i j : Nat) (u : Value) (h : i ≠ j) : (X.setCell ⟨b, i, none⟩ u).cell? ⟨b, j, none⟩ = X.cell? ⟨b, j, none⟩ :=
  World.cell?_setCell_other _ _ _ _ (by intro e; simp only [Addr.mk.injEq] at e; exact h e.2.1)
theorem cells_new_at (w : World) (c : Array Value) (t n : Nat) (hn : n = w.heap.size) : ∀ (j : Nat) (u : Value), c.toList[j]? = some u → (w.alloc (.cells c t)).cell? ((⟨n, 0, none⟩ : Addr).add j) = some u := by
  intro j u h
  rw [Addr.add_lit, Nat.zero_add, World.cell?_alloc_at _ _ _ _ hn]
  simpa using h
theorem seven {w : World} {b t : Nat} {x0 x1 x2 x3 x4 x5 x6 : Value} (h : w.heap[b]? = some (.cells #[x0, x1, x2, x3, x4, x5, x6] t (0, 0))) :
    (w.cell? ⟨b, 0, none⟩ = some x0 ∧ w.cell? ⟨b, 1, none⟩ = some x1 ∧ w.cell? ⟨b, 2, none⟩ = some x2 ∧ w.cell? ⟨b, 3, none⟩ = some x3 ∧ w.cell? ⟨b, 4, none⟩ = some x4 ∧ w.cell? ⟨b, 5, none⟩ = some x5 ∧ w.cell? ⟨b, 6, none⟩ = some x6) ∧
    w.frozen? ⟨b, 0, none⟩ = false ∧ w.frozen? ⟨b, 1, none⟩ = false ∧ w.frozen? ⟨b, 2, none⟩ = false ∧ w.frozen? ⟨b, 3, none⟩ = false ∧ w.frozen? ⟨b, 4, none⟩ = false ∧ w.frozen? ⟨b, 5, none⟩ = false ∧ w.frozen? ⟨b, 6, none⟩ = false := by
  simp [World.cell?, World.frozen?, h]
theorem block_set {w : World} {b t : Nat} {c : Array Value} {f : Nat × Nat} (h : w.heap[b]? = some (.cells c t f)) (i : Nat) (u : Value) : (w.setCell ⟨b, i, none⟩ u).heap[b]? = some (.cells (c.setIfInBounds i u) t f) := by
  simp [World.setCell, Array.getElem?_modify, h]
theorem kept7 {X : List Nat} {a w : World} {b : Nat} (h : Kept X a w) (hb : a.heap.size ≤ b ∨ b ∈ X) (u0 u1 u2 u3 u4 u5 u6 : Value) : Kept X a (((((((w.setCell ⟨b, 0, none⟩ u0).setCell ⟨b, 1, none⟩ u1).setCell ⟨b, 2, none⟩ u2).setCell ⟨b, 3, none⟩ u3).setCell ⟨b, 4, none⟩ u4).setCell ⟨b, 5, none⟩ u5).setCell ⟨b, 6, none⟩ u6) :=
  ((((((h.setCell hb _).setCell hb _).setCell hb _).setCell hb _).setCell hb _).setCell hb _).setCell hb _
end Go.Proofs.YtfkecmlmnhbmoaaGreatDoor
namespace Go.Proofs.YtfkecmlmnhbmoaaGreatDoor
open Go.RowKit
/-- Objects (or values) beside one another: a node's numbers, its real, its text, its keys, its parts; and what stands behind it. -/
inductive F where
  | nil
  | cons (k i g : Int) (r : Nat) (s : ByteArray) (keys : List ByteArray) (kids rest : F)
def F.len : F → Nat
  | .nil => 0
  | .cons _ _ _ _ _ _ _ rest => rest.len + 1
def F.size : F → Nat
  | .nil => 0
  | .cons _ _ _ _ _ _ kids rest => kids.size + rest.size + 1
def F.drop : Nat → F → F
  | 0, f => f
  | _ + 1, .nil => .nil
  | n + 1, .cons _ _ _ _ _ _ _ rest => rest.drop n
theorem F.drop_lt : ∀ {f : F} {n : Nat}, n < f.len → ∃ k i g r s keys kids, f.drop n = .cons k i g r s keys kids (f.drop (n + 1))
  | .nil, _, h => by simp [F.len] at h
  | .cons k i g r s keys kids rest, 0, _ => ⟨k, i, g, r, s, keys, kids, rfl⟩
  | .cons _ _ _ _ _ _ _ rest, n + 1, h => F.drop_lt (f := rest) (by simpa [F.len] using h)
theorem F.len_size : ∀ f : F, f.len ≤ f.size
  | .nil => Nat.le_refl _
  | .cons _ _ _ _ _ _ kids rest => by have := F.len_size rest; simp [F.len, F.size]; omega
theorem F.len_zero : ∀ {f : F}, f.len = 0 → f = .nil
  | .nil, _ => rfl
/-- A whole number of 64 bits. -/
structure I64 (x : Int) : Prop where
  lo : -9223372036854775808 ≤ x
  hi : x ≤ 9223372036854775807
/-- A node's own fields are in their ranges. -/
structure Fld (k i g : Int) (r : Nat) (s : ByteArray) : Prop where
  k : I64 k
  i : I64 i
  g : I64 g
  r : r < 18446744073709551616
  s : s.size ≤ 140737488351232
/-- Below the block N. -/
def Lt (N : Nat) : Nat → Prop := fun b => b < N
theorem ltk {N : Nat} {w : World} {X : List Nat} (hN : N ≤ w.heap.size) (hX : ∀ x ∈ X, N ≤ x) : ∀ b, Lt N b → b < w.heap.size ∧ b ∉ X := fun b hb => ⟨Nat.lt_of_lt_of_le hb hN, fun hm => by have := hX _ hm; unfold Lt at hb; omega⟩
/-- A slice of strings, in blocks of a kind. -/
def KeysIn (P : Nat → Prop) (w : World) (a : Option Addr) (cap : Nat) (ks : List ByteArray) : Prop :=
  ks.length ≤ cap ∧ ks.length * 16 ≤ 140737488355328 ∧ ∀ i (h : i < ks.length), ∃ b o, a = some ⟨b, o, none⟩ ∧ P b ∧ w.cell? ⟨b, o + i, none⟩ = some (.string ks[i]) ∧ ks[i].size ≤ 140737488351232
/-- Objects in rows of seven cells, from a place on. -/
def In (P : Nat → Prop) (w : World) : F → Nat → Nat → Prop
  | .nil, _, _ => True
  | .cons k i g r s keys kids rest, b, o => (∃ ka kc a cap,
      (w.cell? ⟨b, o, none⟩ = some (.int .i64 k) ∧ w.cell? ⟨b, o + 1, none⟩ = some (.int .i64 i) ∧ w.cell? ⟨b, o + 2, none⟩ = some (.int .i64 g) ∧ w.cell? ⟨b, o + 3, none⟩ = some (.float .f64 r) ∧
        w.cell? ⟨b, o + 4, none⟩ = some (.string s) ∧ w.cell? ⟨b, o + 5, none⟩ = some (.slice ka keys.length kc) ∧ w.cell? ⟨b, o + 6, none⟩ = some (.slice a kids.len cap)) ∧
      Fld k i g r s ∧ KeysIn P w ka kc keys ∧ (kids.len ≤ cap ∧ kids.len * 96 ≤ 140737488355328 ∧ (kids.len = 0 ∨ ∃ b' o', a = some ⟨b', o', none⟩ ∧ P b' ∧ In P w kids b' o'))) ∧ In P w rest b (o + 7)
/-- A slice of objects, in blocks of a kind. -/
def Kids (P : Nat → Prop) (w : World) (a : Option Addr) (cap : Nat) (f : F) : Prop := f.len ≤ cap ∧ f.len * 96 ≤ 140737488355328 ∧ (f.len = 0 ∨ ∃ b o, a = some ⟨b, o, none⟩ ∧ P b ∧ In P w f b o)
/-- A node by value. -/
structure Node (P : Nat → Prop) (w : World) (k i g : Int) (r : Nat) (s : ByteArray) (keys : List ByteArray) (kids : F) (ka : Option Addr) (kc : Nat) (a : Option Addr) (cap : Nat) : Prop where
  fld : Fld k i g r s
  keys : KeysIn P w ka kc keys
  kids : Kids P w a cap kids
/-- Its seven cells. -/
structure Cells7 (w : World) (b o : Nat) (k i g : Int) (r : Nat) (s : ByteArray) (v5 v6 : Value) : Prop where
  c0 : w.cell? ⟨b, o, none⟩ = some (.int .i64 k)
  c1 : w.cell? ⟨b, o + 1, none⟩ = some (.int .i64 i)
  c2 : w.cell? ⟨b, o + 2, none⟩ = some (.int .i64 g)
  c3 : w.cell? ⟨b, o + 3, none⟩ = some (.float .f64 r)
  c4 : w.cell? ⟨b, o + 4, none⟩ = some (.string s)
  c5 : w.cell? ⟨b, o + 5, none⟩ = some v5
  c6 : w.cell? ⟨b, o + 6, none⟩ = some v6
theorem In.cons {P : Nat → Prop} {w : World} {k i g : Int} {r : Nat} {s : ByteArray} {keys : List ByteArray} {kids rest : F} {b o : Nat} (h : In P w (.cons k i g r s keys kids rest) b o) :
    (∃ ka kc a cap, Cells7 w b o k i g r s (.slice ka keys.length kc) (.slice a kids.len cap) ∧ Node P w k i g r s keys kids ka kc a cap) ∧ In P w rest b (o + 7) := by
  obtain ⟨⟨ka, kc, a, cap, ⟨h0, h1, h2, h3, h4, h5, h6⟩, hf, hk, hn⟩, hr⟩ := h
  exact ⟨⟨ka, kc, a, cap, ⟨h0, h1, h2, h3, h4, h5, h6⟩, ⟨hf, hk, hn⟩⟩, hr⟩
theorem In.mk {P : Nat → Prop} {w : World} {k i g : Int} {r : Nat} {s : ByteArray} {keys : List ByteArray} {kids rest : F} {b o : Nat} {ka : Option Addr} {kc : Nat} {a : Option Addr} {cap : Nat}
    (hc : Cells7 w b o k i g r s (.slice ka keys.length kc) (.slice a kids.len cap)) (hn : Node P w k i g r s keys kids ka kc a cap) (hr : In P w rest b (o + 7)) : In P w (.cons k i g r s keys kids rest) b o :=
  ⟨⟨ka, kc, a, cap, ⟨hc.c0, hc.c1, hc.c2, hc.c3, hc.c4, hc.c5, hc.c6⟩, hn.fld, hn.keys, hn.kids⟩, hr⟩
theorem In.drop {P : Nat → Prop} {w : World} {b : Nat} : ∀ (n : Nat) {f : F} {o : Nat}, In P w f b o → In P w (f.drop n) b (o + 7 * n)
  | 0, _, _, h => h
  | n + 1, .nil, _, _ => trivial
  | n + 1, .cons _ _ _ _ _ _ _ rest, o, h => by
    have := In.drop n (f := rest) h.2
    rwa [show o + 7 + 7 * n = o + 7 * (n + 1) by omega] at this
theorem KeysIn.kept {P : Nat → Prop} {w w' : World} {a : Option Addr} {cap : Nat} {ks : List ByteArray} {X : List Nat} (h : KeysIn P w a cap ks) (hk : Kept X w w') (hP : ∀ b, P b → b < w.heap.size ∧ b ∉ X) : KeysIn P w' a cap ks :=
  ⟨h.1, h.2.1, fun i hi => by
    obtain ⟨b, o, ha, hb, hc, hs⟩ := h.2.2 i hi
    exact ⟨b, o, ha, hb, (hk.cell (hP _ hb).1 (hP _ hb).2).trans hc, hs⟩⟩
theorem In.kept {P : Nat → Prop} {w w' : World} {X : List Nat} (hk : Kept X w w') (hP : ∀ b, P b → b < w.heap.size ∧ b ∉ X) : ∀ {f : F} {b o : Nat}, P b → In P w f b o → In P w' f b o
  | .nil, _, _, _, _ => trivial
  | .cons k i g r s keys kids rest, b, o, hb, ⟨⟨ka, kc, a, cap, ⟨h0, h1, h2, h3, h4, h5, h6⟩, hf, hks, hn1, hn2, hn3⟩, hr⟩ => by
    have c : ∀ j, w'.cell? ⟨b, j, none⟩ = w.cell? ⟨b, j, none⟩ := fun j => hk.cell (hP _ hb).1 (hP _ hb).2
    refine ⟨⟨ka, kc, a, cap, ⟨(c _).trans h0, (c _).trans h1, (c _).trans h2, (c _).trans h3, (c _).trans h4, (c _).trans h5, (c _).trans h6⟩, hf, hks.kept hk hP, hn1, hn2, ?_⟩, In.kept hk hP hb hr⟩
    rcases hn3 with h | ⟨b', o', ha, hb', hi⟩
    · exact .inl h
    · exact .inr ⟨b', o', ha, hb', In.kept hk hP hb' hi⟩
theorem Kids.kept {P : Nat → Prop} {w w' : World} {X : List Nat} {a : Option Addr} {cap : Nat} {f : F} (h : Kids P w a cap f) (hk : Kept X w w') (hP : ∀ b, P b → b < w.heap.size ∧ b ∉ X) : Kids P w' a cap f := by
  refine ⟨h.1, h.2.1, ?_⟩
  rcases h.2.2 with h | ⟨b', o', ha, hb', hi⟩
  · exact .inl h
  · exact .inr ⟨b', o', ha, hb', In.kept hk hP hb' hi⟩
theorem Node.kept {P : Nat → Prop} {w w' : World} {X : List Nat} {k i g : Int} {r : Nat} {s : ByteArray} {keys : List ByteArray} {kids : F} {ka : Option Addr} {kc : Nat} {a : Option Addr} {cap : Nat}
    (h : Node P w k i g r s keys kids ka kc a cap) (hk : Kept X w w') (hP : ∀ b, P b → b < w.heap.size ∧ b ∉ X) : Node P w' k i g r s keys kids ka kc a cap :=
  ⟨h.fld, h.keys.kept hk hP, h.kids.kept hk hP⟩
theorem KeysIn.mono {P Q : Nat → Prop} (hM : ∀ b, P b → Q b) {w : World} {a : Option Addr} {cap : Nat} {ks : List ByteArray} (h : KeysIn P w a cap ks) : KeysIn Q w a cap ks :=
  ⟨h.1, h.2.1, fun i hi => by obtain ⟨b, o, ha, hb, hc⟩ := h.2.2 i hi; exact ⟨b, o, ha, hM _ hb, hc⟩⟩
theorem In.mono {P Q : Nat → Prop} (hM : ∀ b, P b → Q b) {w : World} : ∀ {f : F} {b o : Nat}, In P w f b o → In Q w f b o
  | .nil, _, _, _ => trivial
  | .cons k i g r s keys kids rest, b, o, ⟨⟨ka, kc, a, cap, hc, hf, hks, hn1, hn2, hn3⟩, hr⟩ => by
    refine ⟨⟨ka, kc, a, cap, hc, hf, hks.mono hM, hn1, hn2, ?_⟩, In.mono hM hr⟩
    rcases hn3 with h | ⟨b', o', ha, hb', hi⟩
    · exact .inl h
    · exact .inr ⟨b', o', ha, hM _ hb', In.mono hM hi⟩
theorem Kids.mono {P Q : Nat → Prop} (hM : ∀ b, P b → Q b) {w : World} {a : Option Addr} {cap : Nat} {f : F} (h : Kids P w a cap f) : Kids Q w a cap f := by
  refine ⟨h.1, h.2.1, ?_⟩
  rcases h.2.2 with h | ⟨b', o', ha, hb', hi⟩
  · exact .inl h
  · exact .inr ⟨b', o', ha, hM _ hb', In.mono hM hi⟩
theorem Node.mono {P Q : Nat → Prop} (hM : ∀ b, P b → Q b) {w : World} {k i g : Int} {r : Nat} {s : ByteArray} {keys : List ByteArray} {kids : F} {ka : Option Addr} {kc : Nat} {a : Option Addr} {cap : Nat}
    (h : Node P w k i g r s keys kids ka kc a cap) : Node Q w k i g r s keys kids ka kc a cap := ⟨h.fld, h.keys.mono hM, h.kids.mono hM⟩
/-- What a slice of objects has at a place. -/
theorem Kids.at {P : Nat → Prop} {w : World} {a : Option Addr} {cap : Nat} {f : F} (h : Kids P w a cap f) {j : Nat} (hj : j < f.len) :
    ∃ b o k i g r s keys kids ka kc a' cap', a = some ⟨b, o, none⟩ ∧ P b ∧ f.drop j = .cons k i g r s keys kids (f.drop (j + 1)) ∧ Cells7 w b (o + 7 * j) k i g r s (.slice ka keys.length kc) (.slice a' kids.len cap') ∧ Node P w k i g r s keys kids ka kc a' cap' := by
  obtain ⟨k, i, g, r, s, keys, kids, hd⟩ := F.drop_lt hj
  rcases h.2.2 with h0 | ⟨b, o, ha, hb, hi⟩
  · omega
  · have h2 := hi.drop j
    rw [hd] at h2
    obtain ⟨⟨ka, kc, a', cap', hc, hn⟩, _⟩ := h2.cons
    exact ⟨b, o, k, i, g, r, s, keys, kids, ka, kc, a', cap', ha, hb, hd, hc, hn⟩
/-- Something holds of each node of a forest (not of the nodes within them). -/
def AllN (C : Int → Int → Int → Nat → ByteArray → List ByteArray → F → Prop) : F → Prop
  | .nil => True
  | .cons k i g r s keys kids rest => C k i g r s keys kids ∧ AllN C rest
theorem AllN.drop {C : Int → Int → Int → Nat → ByteArray → List ByteArray → F → Prop} : ∀ (n : Nat) {f : F}, AllN C f → AllN C (f.drop n)
  | 0, _, h => h
  | _ + 1, .nil, _ => trivial
  | n + 1, .cons _ _ _ _ _ _ _ rest, h => AllN.drop n (f := rest) h.2
theorem AllN.at {C : Int → Int → Int → Nat → ByteArray → List ByteArray → F → Prop} {f : F} (h : AllN C f) {j : Nat} {k i g : Int} {r : Nat} {s : ByteArray} {keys : List ByteArray} {kids rest : F} (hd : f.drop j = .cons k i g r s keys kids rest) : C k i g r s keys kids := by
  have := h.drop j
  rw [hd] at this
  exact this.1
/-- What holds of a node if it holds of those within it holds of all. -/
theorem AllN.all {C : Int → Int → Int → Nat → ByteArray → List ByteArray → F → Prop} (h : ∀ k i g r s keys kids, AllN C kids → C k i g r s keys kids) : ∀ f, AllN C f
  | .nil => trivial
  | .cons k i g r s keys kids rest => ⟨h k i g r s keys kids (AllN.all h kids), AllN.all h rest⟩
theorem AllN.node {C : Int → Int → Int → Nat → ByteArray → List ByteArray → F → Prop} (h : ∀ k i g r s keys kids, AllN C kids → C k i g r s keys kids) (k i g : Int) (r : Nat) (s : ByteArray) (keys : List ByteArray) (kids : F) : C k i g r s keys kids :=
  (AllN.all h (.cons k i g r s keys kids .nil)).1
end Go.Proofs.YtfkecmlmnhbmoaaGreatDoor
