import Derived.Test.YtfkecmlmnhbmoaaGreatDoorFk04
import Derived.OwnWalk
import Derived.ArgAppend
namespace Go.Proofs.YtfkecmlmnhbmoaaGreatDoor
open Go.RowKit
/-- One element more behind a row of the call's own: the row's block stays, or it is a new one. -/
theorem app1 {ops : Array Oper} {rest : List Oper} {o : Oper} {a : Act} {Q : Exit → Act → World → Prop} (hgd : o.guard = none) (s x : Operand) (T E : TypeId) (i : TypeInfo) (z : Value) (size bytes : Nat)
    (ho : o.op = .call { callee := .builtin .append, args := #[s, x], argTypes := #[T, T] }) (ht : Tryz.prog.underlying T = some (.slice E)) (hi : Tryz.prog.info? E = some i) (hz : i.zero = some z) (hsize : i.size = size) (hby : i.bytes = bytes) (hzs : z.cells.size = size) (hsz : 0 < size)
    {w : World} {B : Nat} {v : Value} {n : Nat} {xs : List Value} (hs : a.eval s = v) (hown : w.ownsRow B E size v n xs) (ad : Addr) (news : List Value) (hx : a.eval x = .slice (some ad) 1 1) (hl : news.length = size) (hnews : ∀ j u, news[j]? = some u → w.cell? (ad.add j) = some u) (h1 : ∀ u ∈ news, u.oneCell' = true)
    (hbytes : (n + 1) * bytes ≤ 140737488355328) (hb1 : 1 ≤ bytes) (hbase : B ≤ w.heap.size)
    (hK : ∀ v' w', w'.ownsRow B E size v' (n + 1) (xs ++ news) → w.grownBy w' v.ownBlock → (v'.ownBlock = v.ownBlock ∨ ∃ g, v'.ownBlock = some g ∧ w.heap.size ≤ g) → wpList Tryz.prog ops Q rest (a.put o.dst v') w') :
    wpList Tryz.prog ops Q (o :: rest) a w := by
  have hm : n + 1 ≤ maxLen := by
    have : (n + 1) * 1 ≤ (n + 1) * bytes := Nat.mul_le_mul_left _ hb1
    unfold maxLen; omega
  have hl' : news.length = 1 * size := by omega
  have hown' := hown
  rcases hown.2 with ⟨rfl, hn⟩ | ⟨g, cap, cur, rfl, hBg, hg, hnc, hcm, hcs, htk⟩
  · subst hn
    refine wpList_append_own w hgd s x T ho w.heap.size E i z size bytes ht hi hz hsize hby hzs hsz _ 0 xs hs ⟨hown.1, .inl ⟨rfl, rfl⟩⟩ ad 1 1 news hx hl' hnews h1 hm hbytes (Nat.le_refl _) ?_
    intro v' w' ho' hg' _
    rcases ho'.2 with ⟨_, h0⟩ | ⟨g, cap, cur, rfl, hg1, hrest⟩
    · omega
    · exact hK _ w' ⟨ho'.1, .inr ⟨g, cap, cur, rfl, Nat.le_trans hbase hg1, hrest⟩⟩ hg' (.inr ⟨g, rfl, hg1⟩)
  · by_cases hroom : n + 1 ≤ cap
    · refine wpList_append_fits w hgd s x T ho B E i size ht hi hsize g n cap xs hs hown' ad 1 1 news hx hl' hnews h1 hroom ?_
      intro w' ho' hg'
      exact hK _ w' ho' hg' (.inl rfl)
    · refine wpList_append_grows w hgd s x T ho E i z size bytes ht hi hz hsize hby hzs hsz (some ⟨g, 0, none⟩) n cap xs hs (fun h => by cases h) hown.1 (fun b hb j u hj => by cases hb; exact hown'.cells (g := g) rfl j u hj) ad 1 1 news hx hl' hnews h1 (by omega) hm hbytes ?_
      intro v' w' ho' hg'
      rcases ho'.2 with ⟨_, h0⟩ | ⟨g2, cap2, cur2, rfl, hg1, hrest⟩
      · omega
      · exact hK _ w' ⟨ho'.1, .inr ⟨g2, cap2, cur2, rfl, Nat.le_trans hbase hg1, hrest⟩⟩ ⟨hg'.os, hg'.tape, hg'.output, hg'.size, fun k hk _ => hg'.block k hk (by simp)⟩ (.inr ⟨g2, rfl, hg1⟩)
/-- The cells of nodes beside one another. -/
def Flat (P : Nat → Prop) (w : World) : F → List Value → Prop
  | .nil, cs => cs = []
  | .cons k i g r s keys kids rest, cs => ∃ ka kc a cap tl, cs = .int .i64 k :: .int .i64 i :: .int .i64 g :: .float .f64 r :: .string s :: .slice ka keys.length kc :: .slice a kids.len cap :: tl ∧ Node P w k i g r s keys kids ka kc a cap ∧ Flat P w rest tl
theorem Flat.kept {P : Nat → Prop} {w w' : World} {X : List Nat} (hk : Kept X w w') (hP : ∀ b, P b → b < w.heap.size ∧ b ∉ X) : ∀ {f : F} {cs : List Value}, Flat P w f cs → Flat P w' f cs
  | .nil, _, h => h
  | .cons _ _ _ _ _ _ _ _, _, ⟨ka, kc, a, cap, tl, hc, hn, hr⟩ => ⟨ka, kc, a, cap, tl, hc, hn.kept hk hP, Flat.kept hk hP hr⟩
theorem Flat.mono {P Q : Nat → Prop} (hM : ∀ b, P b → Q b) {w : World} : ∀ {f : F} {cs : List Value}, Flat P w f cs → Flat Q w f cs
  | .nil, _, h => h
  | .cons _ _ _ _ _ _ _ _, _, ⟨ka, kc, a, cap, tl, hc, hn, hr⟩ => ⟨ka, kc, a, cap, tl, hc, hn.mono hM, Flat.mono hM hr⟩
def F.snoc : F → (k i g : Int) → (r : Nat) → (s : ByteArray) → (keys : List ByteArray) → (kids : F) → F
  | .nil, k, i, g, r, s, keys, kids => .cons k i g r s keys kids .nil
  | .cons k0 i0 g0 r0 s0 ks0 kd0 rest, k, i, g, r, s, keys, kids => .cons k0 i0 g0 r0 s0 ks0 kd0 (rest.snoc k i g r s keys kids)
theorem F.len_snoc : ∀ (f : F) (k i g : Int) (r : Nat) (s : ByteArray) (keys : List ByteArray) (kids : F), (f.snoc k i g r s keys kids).len = f.len + 1
  | .nil, _, _, _, _, _, _, _ => rfl
  | .cons _ _ _ _ _ _ _ rest, k, i, g, r, s, keys, kids => by simp [F.snoc, F.len, F.len_snoc rest]
theorem Flat.snoc {P : Nat → Prop} {w : World} {k i g : Int} {r : Nat} {s : ByteArray} {keys : List ByteArray} {kids : F} {ka : Option Addr} {kc : Nat} {a : Option Addr} {cap : Nat} (hn : Node P w k i g r s keys kids ka kc a cap) :
    ∀ {f : F} {cs : List Value}, Flat P w f cs → Flat P w (f.snoc k i g r s keys kids) (cs ++ [.int .i64 k, .int .i64 i, .int .i64 g, .float .f64 r, .string s, .slice ka keys.length kc, .slice a kids.len cap])
  | .nil, _, h => by
    cases h
    exact ⟨ka, kc, a, cap, [], rfl, hn, rfl⟩
  | .cons _ _ _ _ _ _ _ rest, _, ⟨ka', kc', a', cap', tl, hc, hn', hr⟩ => by
    subst hc
    exact ⟨ka', kc', a', cap', _, rfl, hn', Flat.snoc hn hr⟩
theorem Flat.in {P : Nat → Prop} {w : World} {b : Nat} : ∀ {f : F} {cs : List Value} {o : Nat}, Flat P w f cs → (∀ j u, cs[j]? = some u → w.cell? ⟨b, o + j, none⟩ = some u) → In P w f b o
  | .nil, _, _, _, _ => trivial
  | .cons k i g r s keys kids rest, _, o, ⟨ka, kc, a, cap, tl, hc, hn, hr⟩, hcell => by
    subst hc
    refine In.mk (ka := ka) (kc := kc) (a := a) (cap := cap) ⟨hcell 0 _ rfl, hcell 1 _ rfl, hcell 2 _ rfl, hcell 3 _ rfl, hcell 4 _ rfl, hcell 5 _ rfl, hcell 6 _ rfl⟩ hn (Flat.in hr fun j u hj => ?_)
    have := hcell (j + 7) u (by simpa using hj)
    rwa [show o + (j + 7) = o + 7 + j by omega] at this
/-- Blocks that came in (below N), or that lie between H and M and are not the row's own. -/
def PO (N H M : Nat) (v : Value) : Nat → Prop := fun b => b < N ∨ (H ≤ b ∧ b < M ∧ v.ownBlock ≠ some b)
/-- Blocks that came in, or that lie between H and M. -/
def Fr (N H M : Nat) : Nat → Prop := fun b => b < N ∨ (H ≤ b ∧ b < M)
/-- A row of nodes of the call's own. -/
structure OwnF (E B N H M : Nat) (w : World) (v : Value) (f : F) : Prop where
  row : ∃ cs, w.ownsRow B E 7 v f.len cs ∧ Flat (PO N H M v) w f cs
  top : M ≤ w.heap.size
  lo : N ≤ B
  bh : B ≤ H
theorem OwnF.nil {E B N H M : Nat} {w : World} (h1 : M ≤ w.heap.size) (h2 : N ≤ B) (h3 : B ≤ H) : OwnF E B N H M w (.slice none 0 0) .nil := ⟨⟨[], ⟨rfl, Or.inl ⟨rfl, rfl⟩⟩, rfl⟩, h1, h2, h3⟩
theorem OwnF.kept {E B N H M : Nat} {w w' : World} {v : Value} {f : F} {X : List Nat} (h : OwnF E B N H M w v f) (hk : Kept X w w') (hNw : N ≤ w.heap.size) (hX : ∀ x ∈ X, N ≤ x ∧ (x < H ∨ M ≤ x) ∧ v.ownBlock ≠ some x) : OwnF E B N H M w' v f := by
  obtain ⟨⟨cs, hr, hf⟩, ht, hl, hbh⟩ := h
  refine ⟨⟨cs, ⟨hr.1, ?_⟩, hf.kept hk fun b hb => ⟨?_, fun hm => ?_⟩⟩, Nat.le_trans ht hk.size, hl, hbh⟩
  · rcases hr.2 with h | ⟨g, cap, cur, rfl, h2, h3, h4⟩
    · exact .inl h
    · exact .inr ⟨g, cap, cur, rfl, h2, (hk.block g (lt_of_block h3) fun hm => (hX _ hm).2.2 rfl).trans h3, h4⟩
  · rcases hb with h | ⟨_, h, _⟩ <;> omega
  · have := hX _ hm
    rcases hb with h | ⟨h1, h2, _⟩ <;> omega
theorem OwnF.slice {E B N H M : Nat} {w : World} {v : Value} {f : F} (h : OwnF E B N H M w v f) : ∃ a cap, v = .slice a f.len cap := by
  obtain ⟨⟨cs, hr, hf⟩, _, _⟩ := h
  rcases hr.2 with ⟨rfl, h0⟩ | ⟨g, cap, cur, rfl, _⟩
  · exact ⟨none, 0, by rw [h0]⟩
  · exact ⟨_, cap, rfl⟩
theorem OwnF.kids {E B N H M : Nat} {w : World} {a : Option Addr} {n cap : Nat} {f : F} (h : OwnF E B N H M w (.slice a n cap) f) (hb : f.len * 96 ≤ 140737488355328) : n = f.len ∧ Kids (Fr N B w.heap.size) w a cap f := by
  obtain ⟨⟨cs, hr, hf⟩, ht, hl, hbh⟩ := h
  rcases hr.2 with ⟨hv, h0⟩ | ⟨g, cap', cur, hv, hBg, hg, hnc, _⟩
  · cases hv
    exact ⟨h0.symm, by omega, hb, .inl h0⟩
  · cases hv
    refine ⟨rfl, hnc, hb, .inr ⟨g, 0, rfl, .inr ⟨hBg, lt_of_block hg⟩, ?_⟩⟩
    refine Flat.in (P := Fr N B w.heap.size) (cs := cs) (hf.mono fun b hb => ?_) fun j u hj => ?_
    · rcases hb with h | ⟨h1, h2, _⟩
      · exact .inl h
      · exact .inr ⟨by omega, by omega⟩
    · have := hr.cells (g := g) rfl j u hj
      rwa [Addr.add_lit] at this
/-- What an append leaves of it. -/
theorem OwnF.snoc {E B N H M : Nat} {w w' : World} {v v' : Value} {f : F} {k i g : Int} {r : Nat} {s : ByteArray} {keys : List ByteArray} {kids : F} {ka : Option Addr} {kc : Nat} {a : Option Addr} {cap h0 : Nat} {cs : List Value} (hr : w.ownsRow B E 7 v f.len cs) (hf : Flat (PO N H M v) w f cs) (ht : M ≤ w.heap.size) (hl : N ≤ B) (hbh : B ≤ H) (_hh : M ≤ h0) (hHh : H ≤ h0) (hv : ∀ b, v.ownBlock = some b → b < h0)
    (hn : Node (Fr N h0 w.heap.size) w k i g r s keys kids ka kc a cap) (hNw : N ≤ w.heap.size)
    (hrow : w'.ownsRow B E 7 v' (f.len + 1) (cs ++ [.int .i64 k, .int .i64 i, .int .i64 g, .float .f64 r, .string s, .slice ka keys.length kc, .slice a kids.len cap])) (hk : Kept [] w w' ∨ ∃ b, v.ownBlock = some b ∧ Kept [b] w w') (hv' : v'.ownBlock = v.ownBlock ∨ ∃ g, v'.ownBlock = some g ∧ w.heap.size ≤ g) : OwnF E B N H w.heap.size w' v' (f.snoc k i g r s keys kids) := by
  have hBv : ∀ b, v.ownBlock = some b → N ≤ b := fun b hb => by have := (hr.lt b hb).1; omega
  have hsub : ∀ b, PO N H M v b → PO N H w.heap.size v' b := fun b hb => by
    rcases hb with h | ⟨h1, h2, h3⟩
    · exact .inl h
    · refine .inr ⟨h1, by omega, ?_⟩
      rcases hv' with e | ⟨g, e, hg⟩
      · rw [e]; exact h3
      · rw [e]; intro e2; cases e2; omega
  have hsub2 : ∀ b, Fr N h0 w.heap.size b → PO N H w.heap.size v' b := fun b hb => by
    rcases hb with h | ⟨h1, h2⟩
    · exact .inl h
    · refine .inr ⟨by omega, h2, ?_⟩
      rcases hv' with e | ⟨g, e, hg⟩
      · rw [e]; intro e2; have := hv _ e2; omega
      · rw [e]; intro e2; cases e2; omega
  have hlt : ∀ b, PO N H M v b → b < w.heap.size := fun b hb => by rcases hb with h | ⟨_, h, _⟩ <;> omega
  have hlt2 : ∀ b, Fr N h0 w.heap.size b → b < w.heap.size := fun b hb => by rcases hb with h | ⟨_, h⟩ <;> omega
  have hf' : Flat (PO N H M v) w' f cs ∧ Node (Fr N h0 w.heap.size) w' k i g r s keys kids ka kc a cap := by
    rcases hk with hk | ⟨b0, hb0, hk⟩
    · exact ⟨hf.kept hk fun b hb => ⟨hlt b hb, by simp⟩, hn.kept hk fun b hb => ⟨hlt2 b hb, by simp⟩⟩
    · refine ⟨hf.kept hk fun b hb => ⟨hlt b hb, fun hm => ?_⟩, hn.kept hk fun b hb => ⟨hlt2 b hb, fun hm => ?_⟩⟩
      · rw [List.mem_singleton] at hm
        subst hm
        have := hBv _ hb0
        rcases hb with h | ⟨_, _, h⟩
        · omega
        · exact h hb0
      · rw [List.mem_singleton] at hm
        subst hm
        have := hBv _ hb0; have := hv _ hb0
        rcases hb with h | ⟨h, _⟩ <;> omega
  have hsz : w.heap.size ≤ w'.heap.size := by rcases hk with hk | ⟨_, _, hk⟩ <;> exact hk.size
  refine ⟨⟨_, by rw [F.len_snoc]; exact hrow, Flat.snoc (hf'.2.mono hsub2) (hf'.1.mono hsub)⟩, hsz, hl, hbh⟩
end Go.Proofs.YtfkecmlmnhbmoaaGreatDoor
