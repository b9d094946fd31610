import Derived.Test.YtfkecmlmnhbmoaaGreatDoorDs33
import Derived.Deep.AppendLies
import Derived.Deep.CutRange
import Derived.Test.YtfkecmlmnhbmoaaGreatDoorDs29
namespace Go.Proofs.YtfkecmlmnhbmoaaGreatDoor
open Go.RowKit Go.Maps
theorem Tryz.info4 : (Tryz.prog.info? 4).map (fun i => (i.zero, i.size, i.bytes)) = some (some (.bool false), 1, 1) := by kernel_rfl
theorem ownsRow_kept {w w' : World} {X : List Nat} {B E s n : Nat} {v : Value} {xs : List Value} (h : w.ownsRow B E s v n xs) (hk : Kept X w w') (hX : ∀ x ∈ X, v.ownBlock ≠ some x) : w'.ownsRow B E s v n xs := by
  refine ⟨h.1, ?_⟩
  rcases h.2 with h | ⟨g, cap, cur, rfl, h2, h3, h4⟩
  · exact .inl h
  · exact .inr ⟨g, cap, cur, rfl, h2, (hk.block g (lt_of_block h3) fun hm => hX _ hm rfl).trans h3, h4⟩
theorem ownsRow_lt {w : World} {B E s n g : Nat} {v : Value} {xs : List Value} (h : w.ownsRow B E s v n xs) (hg : v.ownBlock = some g) : g < w.heap.size ∧ B ≤ g := by
  rcases h.2 with ⟨rfl, _⟩ | ⟨g', cap, cur, rfl, h2, h3, h4⟩
  · cases hg
  · cases hg; exact ⟨lt_of_block h3, h2⟩
/-- In a statement that appends to two rows of the call's own, in whatever order: what stands of them, from the world ahead of it on. -/
structure Rg (T : TypeId) (wS w : World) (k0 i0 : Option Nat) (B : Nat) (vk vi : Value) (n : Nat) (ks : List Value) (m : Nat) (cs : List Value) (key : Value) (ys : List Value) (bk bi : Option Nat) : Prop where
  keep : Kept (k0.toList ++ i0.toList) wS w
  kr : w.ownsRow B T 1 vk n ks
  ir : w.ownsRow B 26 7 vi m cs
  ka : vk.ownBlock = k0 ∨ ∃ g, vk.ownBlock = some g ∧ wS.heap.size ≤ g
  ia : vi.ownBlock = i0 ∨ ∃ g, vi.ownBlock = some g ∧ wS.heap.size ≤ g
  ne : ∀ b, vk.ownBlock = some b → vi.ownBlock ≠ some b
  pk : ∀ b, bk = some b → w.heap[b]? = some (.cells #[key] T (0, 0)) ∧ vk.ownBlock ≠ some b ∧ vi.ownBlock ≠ some b
  pi : ∀ b, bi = some b → w.heap[b]? = some (.cells ys.toArray 26 (0, 0)) ∧ vk.ownBlock ≠ some b ∧ vi.ownBlock ≠ some b
  hB : B ≤ wS.heap.size
section
variable {T : TypeId} {wS w : World} {k0 i0 : Option Nat} {B : Nat} {vk vi : Value} {n : Nat} {ks : List Value} {m : Nat} {cs : List Value} {key : Value} {ys : List Value} {bk bi : Option Nat}
theorem Rg.go (h : Rg T wS w k0 i0 B vk vi n ks m cs key ys bk bi) {w' : World} (hk : Kept [] w w') : Rg T wS w' k0 i0 B vk vi n ks m cs key ys bk bi :=
  ⟨Kept.trans h.keep hk (fun _ h => h) (by simp), ownsRow_kept h.kr hk (by simp), ownsRow_kept h.ir hk (by simp), h.ka, h.ia, h.ne,
    fun b hb => ⟨(hk.block b (lt_of_block (h.pk b hb).1) (by simp)).trans (h.pk b hb).1, (h.pk b hb).2⟩, fun b hb => ⟨(hk.block b (lt_of_block (h.pi b hb).1) (by simp)).trans (h.pi b hb).1, (h.pi b hb).2⟩, h.hB⟩
theorem Rg.drew (h : Rg T wS w k0 i0 B vk vi n ks m cs key ys bk bi) : Rg T wS w.drew k0 i0 B vk vi n ks m cs key ys bk bi := h.go (Kept.refl [] w).drew
theorem Rg.allocK (h : Rg T wS w k0 i0 B vk vi n ks m cs key ys none bi) : Rg T wS (w.alloc (.cells #[key] T)) k0 i0 B vk vi n ks m cs key ys (some w.heap.size) bi := by
  have h2 := h.go ((Kept.refl [] w).alloc (.cells #[key] T))
  exact ⟨h2.keep, h2.kr, h2.ir, h2.ka, h2.ia, h2.ne, fun b hb => by
    cases hb
    exact ⟨heap_at rfl, fun hg => by have := (ownsRow_lt h.kr hg).1; omega, fun hg => by have := (ownsRow_lt h.ir hg).1; omega⟩, h2.pi, h2.hB⟩
theorem Rg.allocI (h : Rg T wS w k0 i0 B vk vi n ks m cs key ys bk none) : Rg T wS (w.alloc (.cells ys.toArray 26)) k0 i0 B vk vi n ks m cs key ys bk (some w.heap.size) := by
  have h2 := h.go ((Kept.refl [] w).alloc (.cells ys.toArray 26))
  exact ⟨h2.keep, h2.kr, h2.ir, h2.ka, h2.ia, h2.ne, h2.pk, fun b hb => by
    cases hb
    exact ⟨heap_at rfl, fun hg => by have := (ownsRow_lt h.kr hg).1; omega, fun hg => by have := (ownsRow_lt h.ir hg).1; omega⟩, h2.hB⟩
theorem Rg.appK (h : Rg T wS w k0 i0 B vk vi n ks m cs key ys bk bi) {w1 : World} {g cap : Nat} (ho : w1.ownsRow B T 1 (.slice (some ⟨g, 0, none⟩) (n + 1) cap) (n + 1) (ks ++ [key])) (hg : w.grownBy w1 vk.ownBlock) (hat : vk.ownBlock = some g ∨ g = w.heap.size) :
    Rg T wS w1 k0 i0 B (.slice (some ⟨g, 0, none⟩) (n + 1) cap) vi (n + 1) (ks ++ [key]) m cs key ys none bi := by
  have hk : Kept vk.ownBlock.toList w w1 := Kept.of_grown hg fun k hk => by rw [hk]; simp
  have hne : ∀ b, vi.ownBlock = some b → b ≠ g := fun b hb e => by
    subst e
    rcases hat with h1 | h1
    · exact h.ne _ h1 hb
    · have := (ownsRow_lt h.ir hb).1; omega
  refine ⟨Kept.trans h.keep hk (fun _ h => h) fun y hy hl => ?_, ho, ownsRow_kept h.ir hk fun x hx => ?_, ?_, h.ia, fun b hb hb2 => ?_, (fun b hb => by cases hb), fun b hb => ⟨?_, fun hb2 => ?_, (h.pi b hb).2.2⟩, h.hB⟩
  · have hy2 : vk.ownBlock = some y := by simpa using hy
    rcases h.ka with h1 | ⟨g1, h1, h2⟩
    · rw [← h1, hy2]; simp
    · rw [h1] at hy2; cases hy2; omega
  · have hx2 : vk.ownBlock = some x := by simpa using hx
    exact h.ne _ hx2
  · rcases hat with h1 | h1
    · rcases h.ka with h2 | h2
      · exact .inl (by rw [← h2, h1]; rfl)
      · rw [h1] at h2; exact .inr h2
    · exact .inr ⟨g, rfl, by rw [h1]; exact h.keep.size⟩
  · cases hb; exact hne _ hb2 rfl
  · exact (hk.block b (lt_of_block (h.pi b hb).1) fun hm => (h.pi b hb).2.1 (by simpa using hm)).trans (h.pi b hb).1
  · cases hb2
    rcases hat with h1 | h1
    · exact (h.pi _ hb).2.1 h1
    · have h5 : g < w.heap.size := lt_of_block (h.pi _ hb).1; omega
theorem Rg.appI (h : Rg T wS w k0 i0 B vk vi n ks m cs key ys bk bi) {w1 : World} {g cap : Nat} (ho : w1.ownsRow B 26 7 (.slice (some ⟨g, 0, none⟩) (m + 1) cap) (m + 1) (cs ++ ys)) (hg : w.grownBy w1 vi.ownBlock) (hat : vi.ownBlock = some g ∨ g = w.heap.size) :
    Rg T wS w1 k0 i0 B vk (.slice (some ⟨g, 0, none⟩) (m + 1) cap) n ks (m + 1) (cs ++ ys) key ys bk none := by
  have hk : Kept vi.ownBlock.toList w w1 := Kept.of_grown hg fun k hk => by rw [hk]; simp
  have hne : ∀ b, vk.ownBlock = some b → b ≠ g := fun b hb e => by
    subst e
    rcases hat with h1 | h1
    · exact h.ne _ hb h1
    · have := (ownsRow_lt h.kr hb).1; omega
  refine ⟨Kept.trans h.keep hk (fun _ h => h) fun y hy hl => ?_, ownsRow_kept h.kr hk fun x hx hb => ?_, ho, h.ka, ?_, fun b hb hb2 => ?_, fun b hb => ⟨?_, (h.pk b hb).2.1, fun hb2 => ?_⟩, (fun b hb => by cases hb), h.hB⟩
  · have hy2 : vi.ownBlock = some y := by simpa using hy
    rcases h.ia with h1 | ⟨g1, h1, h2⟩
    · rw [← h1, hy2]; simp
    · rw [h1] at hy2; cases hy2; omega
  · have hx2 : vi.ownBlock = some x := by simpa using hx
    exact h.ne _ hb hx2
  · rcases hat with h1 | h1
    · rcases h.ia with h2 | h2
      · exact .inl (by rw [← h2, h1]; rfl)
      · rw [h1] at h2; exact .inr h2
    · exact .inr ⟨g, rfl, by rw [h1]; exact h.keep.size⟩
  · cases hb2; exact hne _ hb rfl
  · exact (hk.block b (lt_of_block (h.pk b hb).1) fun hm => (h.pk b hb).2.2 (by simpa using hm)).trans (h.pk b hb).1
  · cases hb2
    rcases hat with h1 | h1
    · exact (h.pk _ hb).2.2 h1
    · have h5 : g < w.heap.size := lt_of_block (h.pk _ hb).1; omega
/-- The append of a key, at a step of such a statement. -/
theorem stepK {ops : Array Oper} {o : Oper} {a : Act} {K : Act → World → Prop} {Q : Exit → Act → World → Prop} {E : Prop} (hgd : o.guard = none) (s x : Operand)
    (ho : o.op = .call { callee := .builtin .append, args := #[s, x], argTypes := #[23, 23] }) {b : Nat} (hR : Rg 9 wS w k0 i0 B vk vi n ks m cs key ys (some b) bi) (hs : a.eval s = vk) (b' : Nat) (hx : a.eval x = .slice (some ⟨b', 0, none⟩) 1 1) (hb : b' = b)
    (h1 : key.oneCell' = true) (hn : (n + 1) * 16 ≤ 140737488355328)
    (h : ∀ g cap w', Rg 9 wS w' k0 i0 B (.slice (some ⟨g, 0, none⟩) (n + 1) cap) vi (n + 1) (ks ++ [key]) m cs key ys none bi → K (a.put o.dst (.slice (some ⟨g, 0, none⟩) (n + 1) cap)) w') :
    if Region.wanted o (yielded ops a.tmps) = true then Oper.wp Tryz.prog o a w K Q else E := by
  subst hb
  obtain ⟨i1, hi, hz0, hz1, hz2⟩ := info_parts Tryz.info9
  refine step_append_lies w hgd s x 23 ho B 9 i1 (.string ⟨#[]⟩) 1 16 Tryz.underlying23 hi hz0 hz1 hz2 rfl (by decide) vk n ks hs hR.kr ⟨b', 0, none⟩ 1 1 [key] hx rfl (World.news_of_block (hR.pk b' rfl).1) (by simpa using h1) (by decide) (by unfold maxLen; omega) hn (Nat.le_trans hR.hB hR.keep.size) _ rfl ?_
  intro g cap w' ho2 hg2 hat _
  exact h g cap w' (hR.appK ho2 hg2 hat)
/-- The append of a truth value, at a step of such a statement. -/
theorem stepT {ops : Array Oper} {o : Oper} {a : Act} {K : Act → World → Prop} {Q : Exit → Act → World → Prop} {E : Prop} (hgd : o.guard = none) (s x : Operand)
    (ho : o.op = .call { callee := .builtin .append, args := #[s, x], argTypes := #[43, 43] }) {b : Nat} (hR : Rg 4 wS w k0 i0 B vk vi n ks m cs key ys (some b) bi) (hs : a.eval s = vk) (b' : Nat) (hx : a.eval x = .slice (some ⟨b', 0, none⟩) 1 1) (hb : b' = b)
    (h1 : key.oneCell' = true) (hn : (n + 1) * 1 ≤ 140737488355328)
    (h : ∀ g cap w', Rg 4 wS w' k0 i0 B (.slice (some ⟨g, 0, none⟩) (n + 1) cap) vi (n + 1) (ks ++ [key]) m cs key ys none bi → K (a.put o.dst (.slice (some ⟨g, 0, none⟩) (n + 1) cap)) w') :
    if Region.wanted o (yielded ops a.tmps) = true then Oper.wp Tryz.prog o a w K Q else E := by
  subst hb
  obtain ⟨i1, hi, hz0, hz1, hz2⟩ := info_parts Tryz.info4
  refine step_append_lies w hgd s x 43 ho B 4 i1 (.bool false) 1 1 Tryz.underlying43 hi hz0 hz1 hz2 rfl (by decide) vk n ks hs hR.kr ⟨b', 0, none⟩ 1 1 [key] hx rfl (World.news_of_block (hR.pk b' rfl).1) (by simpa using h1) (by decide) (by unfold maxLen; omega) hn (Nat.le_trans hR.hB hR.keep.size) _ rfl ?_
  intro g cap w' ho2 hg2 hat _
  exact h g cap w' (hR.appK ho2 hg2 hat)
/-- The append of a part, at a step of such a statement. -/
theorem stepI {ops : Array Oper} {o : Oper} {a : Act} {K : Act → World → Prop} {Q : Exit → Act → World → Prop} {E : Prop} (hgd : o.guard = none) (s x : Operand)
    (ho : o.op = .call { callee := .builtin .append, args := #[s, x], argTypes := #[24, 24] }) {b : Nat} (hR : Rg T wS w k0 i0 B vk vi n ks m cs key ys bk (some b)) (hs : a.eval s = vi) (b' : Nat) (hx : a.eval x = .slice (some ⟨b', 0, none⟩) 1 1) (hb : b' = b)
    (hl : ys.length = 7) (h1 : ∀ u ∈ ys, u.oneCell' = true) (hn : (m + 1) * 96 ≤ 140737488355328)
    (h : ∀ g cap w', Rg T wS w' k0 i0 B vk (.slice (some ⟨g, 0, none⟩) (m + 1) cap) n ks (m + 1) (cs ++ ys) key ys bk none → K (a.put o.dst (.slice (some ⟨g, 0, none⟩) (m + 1) cap)) w') :
    if Region.wanted o (yielded ops a.tmps) = true then Oper.wp Tryz.prog o a w K Q else E := by
  subst hb
  obtain ⟨i1, hi, hz0, hz1, hz2⟩ := info_parts Tryz.info26
  refine step_append_lies w hgd s x 24 ho B 26 i1 (.agg #[.int .i64 0, .int .i64 0, .int .i64 0, .float .f64 0, .string ⟨#[]⟩, .slice none 0 0, .slice none 0 0]) 7 96 Tryz.underlying24 hi hz0 hz1 hz2 rfl (by decide) vi m cs hs hR.ir ⟨b', 0, none⟩ 1 1 ys hx hl (World.news_of_block (hR.pi b' rfl).1) h1 (by decide) (by unfold maxLen; omega) hn (Nat.le_trans hR.hB hR.keep.size) _ rfl ?_
  intro g cap w' ho2 hg2 hat _
  exact h g cap w' (hR.appI ho2 hg2 hat)
end
end Go.Proofs.YtfkecmlmnhbmoaaGreatDoor
namespace Go.Proofs.YtfkecmlmnhbmoaaGreatDoor
open Go.RowKit Go.Maps
def F.of : List Nd → F
  | [] => .nil
  | n :: l => .cons n.k n.i n.g n.r n.s n.keys n.kids (F.of l)
theorem F.of_snoc (n : Nd) : ∀ l : List Nd, F.of (l ++ [n]) = (F.of l).snoc n.k n.i n.g n.r n.s n.keys n.kids
  | [] => rfl
  | m :: l => by simp only [List.cons_append, F.of, F.snoc, F.of_snoc n l]
theorem F.of_len : ∀ l : List Nd, (F.of l).len = l.length
  | [] => rfl
  | m :: l => by simp [F.of, F.len, F.of_len l]
theorem F.of_nd : ∀ (l : List Nd) (j : Nat), (F.of l).nd j = l[j]?
  | [], _ => rfl
  | _ :: _, 0 => rfl
  | _ :: l, j + 1 => by simp only [F.of, F.nd, List.getElem?_cons_succ]; exact F.of_nd l j
theorem F.ex_of : ∀ f : F, ∃ l, F.of l = f
  | .nil => ⟨[], rfl⟩
  | .cons k i g r s keys kids rest => by
    obtain ⟨l, h⟩ := F.ex_of rest
    exact ⟨⟨k, i, g, r, s, keys, kids⟩ :: l, by rw [F.of, h]⟩
def Di.of (L : List (ByteArray × Nd)) : Di := ⟨L.map Prod.fst, F.of (L.map Prod.snd)⟩
theorem Di.ex_of (d : Di) (h : d.keys.length = d.kids.len) : ∃ L, Di.of L = d := by
  obtain ⟨keys, kids⟩ := d
  obtain ⟨l, rfl⟩ := F.ex_of kids
  rw [F.of_len] at h
  exact ⟨keys.zip l, by simp only [Di.of]; rw [List.map_fst_zip (Nat.le_of_eq h), List.map_snd_zip (Nat.le_of_eq h.symm)]⟩
theorem Di.of_at {L : List (ByteArray × Nd)} {s : ByteArray} {n : Nd} : (Di.of L).At s n ↔ (s, n) ∈ L := by
  constructor
  · rintro ⟨j, h1, h2⟩
    simp only [Di.of, F.of_nd, List.getElem?_map] at h1 h2
    cases h : L[j]? with
    | none => rw [h] at h1; cases h1
    | some p =>
      rw [h] at h1 h2
      have e1 : p.1 = s := by simpa using h1
      have e2 : p.2 = n := by simpa using h2
      have := List.mem_of_getElem? h
      rwa [show p = (s, n) by rw [← e1, ← e2]] at this
  · intro h
    obtain ⟨j, hj, he⟩ := List.getElem_of_mem h
    exact ⟨j, by simp [Di.of, List.getElem?_eq_getElem hj, he], by simp [Di.of, F.of_nd, List.getElem?_eq_getElem hj, he]⟩
def Srt (L : List (ByteArray × Nd)) : Prop := L.Pairwise fun p q => p.1.data.toList < q.1.data.toList
theorem Srt.asc {L : List (ByteArray × Nd)} (h : Srt L) : Asc (Di.of L).keys := (List.pairwise_map (f := Prod.fst) (R := fun a b : ByteArray => a.data.toList < b.data.toList)).2 h
theorem Srt.of {L : List (ByteArray × Nd)} (h : Asc (Di.of L).keys) : Srt L := (List.pairwise_map (f := Prod.fst) (R := fun a b : ByteArray => a.data.toList < b.data.toList)).1 h
theorem lt_trans' {a b c : ByteArray} (h : a.data.toList < b.data.toList) (k : b.data.toList < c.data.toList) : a.data.toList < c.data.toList := List.lt_trans h k
theorem lt_ne {a b : ByteArray} (h : a.data.toList < b.data.toList) : a ≠ b := fun e => by subst e; exact List.lt_irrefl _ h
theorem Srt.snoc {L : List (ByteArray × Nd)} (h : Srt L) {p : ByteArray × Nd} (hp : ∀ q ∈ L, q.1.data.toList < p.1.data.toList) : Srt (L ++ [p]) :=
  List.pairwise_append.2 ⟨h, List.pairwise_singleton _ _, fun q hq r hr => by rw [List.mem_singleton.1 hr]; exact hp q hq⟩
theorem DiOk.of {L : List (ByteArray × Nd)} (h : Srt L) (k : ∀ p ∈ L, Simp p.1 ∧ NdOk p.2) : DiOk (Di.of L) :=
  ⟨by simp [Di.of, F.of_len], h.asc, fun s hs => by
    obtain ⟨p, hp, rfl⟩ := List.mem_map.1 hs
    exact (k p hp).1, fun j n hn => by
    simp only [Di.of, F.of_nd, List.getElem?_map] at hn
    cases h : L[j]? with
    | none => rw [h] at hn; cases hn
    | some p =>
      rw [h] at hn
      have e2 : p.2 = n := by simpa using hn
      rw [← e2]; exact (k p (List.mem_of_getElem? h)).2⟩
theorem DiOk.prs {L : List (ByteArray × Nd)} (h : DiOk (Di.of L)) : ∀ p ∈ L, Simp p.1 ∧ NdOk p.2 := fun p hp => by
  obtain ⟨j, hj, he⟩ := List.getElem_of_mem hp
  exact ⟨h.simp _ (List.mem_map.2 ⟨p, hp, rfl⟩), h.ok j p.2 (by simp [Di.of, F.of_nd, List.getElem?_eq_getElem hj, he])⟩
/-- Without a key, so far. -/
structure DropI (key : ByteArray) (M S : List (ByteArray × Nd)) : Prop where
  mem : ∀ p, p ∈ S ↔ p.1 ≠ key ∧ p ∈ M
  srt : Srt S
  len : S.length ≤ M.length
theorem DropI.nil (key : ByteArray) : DropI key [] [] := ⟨by simp, List.Pairwise.nil, Nat.le_refl _⟩
theorem DropI.same {key : ByteArray} {M S : List (ByteArray × Nd)} (h : DropI key M S) {p : ByteArray × Nd} (hp : p.1 = key) : DropI key (M ++ [p]) S :=
  ⟨fun q => by
    rw [h.mem q, List.mem_append, List.mem_singleton]
    constructor
    · rintro ⟨a, b⟩; exact ⟨a, .inl b⟩
    · rintro ⟨a, b | b⟩
      · exact ⟨a, b⟩
      · rw [b] at a; exact absurd hp a, h.srt, by have := h.len; simp; omega⟩
theorem DropI.more {key : ByteArray} {M S : List (ByteArray × Nd)} (h : DropI key M S) {p : ByteArray × Nd} (hp : p.1 ≠ key) (hM : ∀ q ∈ M, q.1.data.toList < p.1.data.toList) : DropI key (M ++ [p]) (S ++ [p]) :=
  ⟨fun q => by
    rw [List.mem_append, List.mem_append, h.mem q, List.mem_singleton]
    constructor
    · rintro (⟨a, b⟩ | rfl)
      · exact ⟨a, .inl b⟩
      · exact ⟨hp, .inr rfl⟩
    · rintro ⟨a, b | b⟩
      · exact .inl ⟨a, b⟩
      · exact .inr b, h.srt.snoc fun q hq => hM q ((h.mem q).1 hq).2, by have := h.len; simp; omega⟩
theorem DropI.fin {key : ByteArray} {L S : List (ByteArray × Nd)} (hL : DiOk (Di.of L)) (h : DropI key L S) : DropR (Di.of L) key (Di.of S) :=
  ⟨DiOk.of h.srt fun p hp => hL.prs p ((h.mem p).1 hp).2, fun s n => by rw [Di.of_at, Di.of_at, h.mem], by simpa [Di.of] using h.len⟩
/-- With a key's value, so far. -/
structure PutI (key : ByteArray) (y : Nd) (M S : List (ByteArray × Nd)) (done : Bool) : Prop where
  mem : ∀ p, p ∈ S ↔ (p.1 ≠ key ∧ p ∈ M) ∨ (done = true ∧ p = (key, y))
  srt : Srt S
  lo : done = false → ∀ p ∈ M, p.1.data.toList < key.data.toList
  hi : done = true → ∃ p ∈ M, p.1.data.toList < key.data.toList → False
  len : S.length ≤ M.length + 1
  len0 : done = false → S.length ≤ M.length
theorem PutI.nil (key : ByteArray) (y : Nd) : PutI key y [] [] false := ⟨by simp, List.Pairwise.nil, by simp, (fun h => by cases h), by simp, by simp⟩
theorem lt_tri (a b : ByteArray) : a.data.toList < b.data.toList ∨ a = b ∨ b.data.toList < a.data.toList := by
  by_cases h1 : a.data.toList < b.data.toList
  · exact .inl h1
  · by_cases h2 : b.data.toList < a.data.toList
    · exact .inr (.inr h2)
    · have := List.le_antisymm (List.not_lt.1 h2) (List.not_lt.1 h1)
      exact .inr (.inl (ByteArray.ext (Array.ext' this)))
/-- The new value, ahead of a key that is not less. -/
theorem PutI.put {key : ByteArray} {y : Nd} {M S : List (ByteArray × Nd)} (h : PutI key y M S false) {p : ByteArray × Nd} (hp : key.data.toList < p.1.data.toList) : PutI key y (M ++ [p]) (S ++ [(key, y)] ++ [p]) true := by
  have hS : ∀ q ∈ S, q.1.data.toList < key.data.toList := fun q hq => by
    rcases (h.mem q).1 hq with h1 | ⟨h1, _⟩
    · exact h.lo rfl q h1.2
    · cases h1
  refine ⟨fun q => ?_, (h.srt.snoc (p := (key, y)) hS).snoc fun q hq => ?_, (fun h => by cases h), fun _ => ⟨p, by simp, fun h2 => List.lt_irrefl _ (lt_trans' hp h2)⟩, by have := h.len0 rfl; simp; omega, fun h => by cases h⟩
  · simp only [List.mem_append, List.mem_singleton, h.mem q]
    constructor
    · rintro (((⟨a, b⟩ | ⟨a, _⟩) | rfl) | rfl)
      · exact .inl ⟨a, .inl b⟩
      · cases a
      · exact .inr ⟨by trivial, rfl⟩
      · exact .inl ⟨fun e => lt_ne hp e.symm, .inr rfl⟩
    · rintro (⟨a, b | b⟩ | ⟨_, b⟩)
      · exact .inl (.inl (.inl ⟨a, b⟩))
      · exact .inr b
      · exact .inl (.inr b)
  · rcases List.mem_append.1 hq with hq | hq
    · exact lt_trans' (hS q hq) hp
    · rw [List.mem_singleton.1 hq]; exact hp
theorem PutI.here {key : ByteArray} {y : Nd} {M S : List (ByteArray × Nd)} (h : PutI key y M S false) {p : ByteArray × Nd} (hp : p.1 = key) : PutI key y (M ++ [p]) (S ++ [(key, y)]) true := by
  have hS : ∀ q ∈ S, q.1.data.toList < key.data.toList := fun q hq => by
    rcases (h.mem q).1 hq with h1 | ⟨h1, _⟩
    · exact h.lo rfl q h1.2
    · cases h1
  refine ⟨fun q => ?_, h.srt.snoc (p := (key, y)) hS, (fun h => by cases h), fun _ => ⟨p, by simp, fun h2 => by rw [hp] at h2; exact List.lt_irrefl _ h2⟩, by have := h.len0 rfl; simp; omega, fun h => by cases h⟩
  simp only [List.mem_append, List.mem_singleton, h.mem q]
  constructor
  · rintro ((⟨a, b⟩ | ⟨a, _⟩) | rfl)
    · exact .inl ⟨a, .inl b⟩
    · cases a
    · exact .inr ⟨by trivial, rfl⟩
  · rintro (⟨a, b | b⟩ | ⟨_, b⟩)
    · exact .inl (.inl ⟨a, b⟩)
    · rw [b] at a; exact absurd hp a
    · exact .inr b
theorem PutI.less {key : ByteArray} {y : Nd} {M S : List (ByteArray × Nd)} (h : PutI key y M S false) {p : ByteArray × Nd} (hp : p.1.data.toList < key.data.toList) (hM : ∀ q ∈ M, q.1.data.toList < p.1.data.toList) : PutI key y (M ++ [p]) (S ++ [p]) false := by
  refine ⟨fun q => ?_, h.srt.snoc fun q hq => ?_, fun _ q hq => ?_, (fun h => by cases h), by have := h.len0 rfl; simp; omega, fun _ => by have := h.len0 rfl; simp; omega⟩
  · simp only [List.mem_append, List.mem_singleton, h.mem q]
    constructor
    · rintro ((⟨a, b⟩ | ⟨a, _⟩) | rfl)
      · exact .inl ⟨a, .inl b⟩
      · cases a
      · exact .inl ⟨lt_ne hp, .inr rfl⟩
    · rintro (⟨a, b | b⟩ | ⟨a, _⟩)
      · exact .inl (.inl ⟨a, b⟩)
      · exact .inr b
      · cases a
  · rcases (h.mem q).1 hq with h1 | ⟨h1, _⟩
    · exact hM q h1.2
    · cases h1
  · rcases List.mem_append.1 hq with hq | hq
    · exact h.lo rfl q hq
    · rw [List.mem_singleton.1 hq]; exact hp
theorem PutI.above {key : ByteArray} {y : Nd} {M S : List (ByteArray × Nd)} (h : PutI key y M S true) {p : ByteArray × Nd} (hM : ∀ q ∈ M, q.1.data.toList < p.1.data.toList) : key.data.toList < p.1.data.toList := by
  obtain ⟨q, hq, hn⟩ := h.hi rfl
  rcases lt_tri q.1 key with h1 | h1 | h1
  · exact (hn h1).elim
  · rw [← h1]; exact hM q hq
  · exact lt_trans' h1 (hM q hq)
theorem PutI.more {key : ByteArray} {y : Nd} {M S : List (ByteArray × Nd)} (h : PutI key y M S true) {p : ByteArray × Nd} (hM : ∀ q ∈ M, q.1.data.toList < p.1.data.toList) : PutI key y (M ++ [p]) (S ++ [p]) true := by
  have hp := h.above hM
  refine ⟨fun q => ?_, h.srt.snoc fun q hq => ?_, (fun h => by cases h), fun _ => ?_, by have := h.len; simp; omega, fun h => by cases h⟩
  · simp only [List.mem_append, List.mem_singleton, h.mem q]
    constructor
    · rintro ((⟨a, b⟩ | ⟨_, b⟩) | rfl)
      · exact .inl ⟨a, .inl b⟩
      · exact .inr ⟨by trivial, b⟩
      · exact .inl ⟨fun e => lt_ne hp e.symm, .inr rfl⟩
    · rintro (⟨a, b | b⟩ | ⟨_, b⟩)
      · exact .inl (.inl ⟨a, b⟩)
      · exact .inr b
      · exact .inl (.inr ⟨by trivial, b⟩)
  · rcases (h.mem q).1 hq with h1 | ⟨_, h1⟩
    · exact hM q h1.2
    · rw [h1]; exact hp
  · obtain ⟨q, hq, hn⟩ := h.hi rfl
    exact ⟨q, List.mem_append.2 (.inl hq), hn⟩
theorem PutI.fin {key : ByteArray} {y : Nd} {L S : List (ByteArray × Nd)} (hL : DiOk (Di.of L)) (hk : Simp key) (hy : NdOk y) (h : PutI key y L S true) : PutR (Di.of L) key y (Di.of S) :=
  ⟨DiOk.of h.srt fun p hp => by
    rcases (h.mem p).1 hp with h1 | ⟨_, h1⟩
    · exact hL.prs p h1.2
    · rw [h1]; exact ⟨hk, hy⟩, fun s n => by
    rw [Di.of_at, Di.of_at, h.mem]
    constructor
    · rintro (h1 | ⟨_, h1⟩)
      · exact .inr h1
      · cases h1; exact .inl ⟨rfl, rfl⟩
    · rintro (⟨rfl, rfl⟩ | h1)
      · exact .inr ⟨by trivial, rfl⟩
      · exact .inl h1, by have := h.len; simpa [Di.of] using this⟩
theorem PutI.last {key : ByteArray} {y : Nd} {L S : List (ByteArray × Nd)} (hL : DiOk (Di.of L)) (hk : Simp key) (hy : NdOk y) (h : PutI key y L S false) : PutR (Di.of L) key y (Di.of (S ++ [(key, y)])) := by
  have hS : ∀ q ∈ S, q.1.data.toList < key.data.toList := fun q hq => by
    rcases (h.mem q).1 hq with h1 | ⟨h1, _⟩
    · exact h.lo rfl q h1.2
    · cases h1
  refine ⟨DiOk.of (h.srt.snoc (p := (key, y)) hS) fun p hp => ?_, fun s n => ?_, by have := h.len0 rfl; simpa [Di.of] using this⟩
  · rcases List.mem_append.1 hp with hp | hp
    · rcases (h.mem p).1 hp with h1 | ⟨h1, _⟩
      · exact hL.prs p h1.2
      · cases h1
    · rw [List.mem_singleton.1 hp]; exact ⟨hk, hy⟩
  · rw [Di.of_at, Di.of_at, List.mem_append, h.mem, List.mem_singleton]
    constructor
    · rintro ((h1 | ⟨h1, _⟩) | h1)
      · exact .inr h1
      · cases h1
      · cases h1; exact .inl ⟨rfl, rfl⟩
    · rintro (⟨rfl, rfl⟩ | h1)
      · exact .inr rfl
      · exact .inl (.inl h1)
/-- The rows of the dictionary that is being made. -/
structure OutR (B : Nat) (M : Bd) (w : World) (vk vi : Value) (S : List (ByteArray × Nd)) : Prop where
  kr : w.ownsRow B 9 1 vk S.length (S.map fun p => .string p.1)
  ir : ∃ cs, w.ownsRow B 26 7 vi S.length cs ∧ Flat (LtB M) w (F.of (S.map Prod.snd)) cs
  ne : ∀ b, vk.ownBlock = some b → vi.ownBlock ≠ some b
  sz : ∀ p ∈ S, p.1.size ≤ 140737488351232
theorem OutR.nil (B : Nat) (M : Bd) (w : World) : OutR B M w (.slice none 0 0) (.slice none 0 0) [] := ⟨⟨rfl, .inl ⟨rfl, rfl⟩⟩, ⟨[], ⟨rfl, .inl ⟨rfl, rfl⟩⟩, rfl⟩, (fun b h => by cases h), by simp⟩
theorem OutR.kept {B : Nat} {M : Bd} {w w' : World} {vk vi : Value} {S : List (ByteArray × Nd)} (h : OutR B M w vk vi S) {X : List Nat} (hk : Kept X w w') (hM : M.n ≤ w.heap.size) (hX : ∀ x ∈ X, M.n ≤ x ∧ vk.ownBlock ≠ some x ∧ vi.ownBlock ≠ some x) : OutR B M w' vk vi S := by
  obtain ⟨hkr, ⟨cs, hir, hfl⟩, hne, hsz⟩ := h
  exact ⟨ownsRow_kept hkr hk fun x hx => (hX x hx).2.1, ⟨cs, ownsRow_kept hir hk fun x hx => (hX x hx).2.2, hfl.kept hk (ltkB hM fun x hx => (hX x hx).1)⟩, hne, hsz⟩
theorem Rg.start {T : TypeId} {B : Nat} {w : World} {vk vi : Value} {n m : Nat} {ks cs : List Value} (key : Value) (ys : List Value) (h1 : w.ownsRow B T 1 vk n ks) (h2 : w.ownsRow B 26 7 vi m cs) (h3 : ∀ b, vk.ownBlock = some b → vi.ownBlock ≠ some b) (hB : B ≤ w.heap.size) :
    Rg T w w vk.ownBlock vi.ownBlock B vk vi n ks m cs key ys none none := ⟨Kept.refl _ _, h1, h2, .inl rfl, .inl rfl, h3, (fun b hb => by cases hb), (fun b hb => by cases hb), hB⟩
theorem OutR.more {B : Nat} {M : Bd} {wS w : World} {k0 i0 : Option Nat} {vk vi : Value} {S : List (ByteArray × Nd)} {cs : List Value} {key : ByteArray} {y : Nd} {ka : Option Addr} {kc : Nat} {a : Option Addr} {cap : Nat} {bk bi : Option Nat} {ys : List Value} (hys : ys = [.int .i64 y.k, .int .i64 y.i, .int .i64 y.g, .float .f64 y.r, .string y.s, .slice ka y.keys.length kc, .slice a y.kids.len cap])
    (h : Rg 9 wS w k0 i0 B vk vi (S.length + 1) ((S.map fun p => .string p.1) ++ [.string key]) (S.length + 1) (cs ++ ys) (.string key) ys bk bi)
    (hf : Flat (LtB M) wS (F.of (S.map Prod.snd)) cs) (hy : Node (LtB M) wS y.k y.i y.g y.r y.s y.keys y.kids ka kc a cap) (hk : key.size ≤ 140737488351232) (hsz : ∀ p ∈ S, p.1.size ≤ 140737488351232) (hM : M.n ≤ wS.heap.size) (h0 : ∀ b, k0 = some b ∨ i0 = some b → M.n ≤ b) :
    OutR B M w vk vi (S ++ [(key, y)]) := by
  subst hys
  have hx : ∀ x ∈ k0.toList ++ i0.toList, M.n ≤ x := fun x hx => h0 x (by simpa using hx)
  refine ⟨?_, ⟨cs ++ [.int .i64 y.k, .int .i64 y.i, .int .i64 y.g, .float .f64 y.r, .string y.s, .slice ka y.keys.length kc, .slice a y.kids.len cap], ?_, ?_⟩, h.ne, fun p hp => ?_⟩
  · have := h.kr
    rw [List.length_append, List.map_append]; exact this
  · rw [List.length_append]; exact h.ir
  · rw [List.map_append, List.map_singleton, F.of_snoc]
    exact Flat.snoc (hy.kept h.keep (ltkB hM hx)) (hf.kept h.keep (ltkB hM hx))
  · rcases List.mem_append.1 hp with hp | hp
    · exact hsz p hp
    · rw [List.mem_singleton.1 hp]; exact hk
theorem addr0 (g i : Nat) : (⟨g, 0, none⟩ : Addr).add i = ⟨g, i, none⟩ := by
  unfold Addr.add; split <;> simp_all
theorem OutR.out {B : Nat} {M : Bd} {w : World} {vk vi : Value} {S : List (ByteArray × Nd)} (h : OutR B M w vk vi S) (hb : S.length * 96 ≤ 140737488355328) : ∃ ka kc a cap, vk = .slice ka S.length kc ∧ vi = .slice a S.length cap ∧
    Node (FrB M B w.heap.size) w 8 0 0 0 ⟨#[]⟩ (Di.of S).keys (Di.of S).kids ka kc a cap := by
  obtain ⟨hkr, ⟨cs, hir, hfl⟩, hne, hsz⟩ := h
  have hfld : Fld 8 0 0 0 ⟨#[]⟩ := ⟨⟨by decide, by decide⟩, ⟨by decide, by decide⟩, ⟨by decide, by decide⟩, by decide, by decide⟩
  have hkl : (Di.of S).keys.length = S.length := by simp [Di.of]
  have hil : (Di.of S).kids.len = S.length := by simp [Di.of, F.of_len]
  have e1 : ∃ ka kc, vk = .slice ka S.length kc ∧ KeysIn (FrB M B w.heap.size) w ka kc (Di.of S).keys := by
    rcases hkr.2 with ⟨rfl, h0⟩ | ⟨g, c, cur, rfl, h2, h3, h4⟩
    · exact ⟨none, 0, by rw [h0], by rw [hkl]; omega, by rw [hkl]; omega, fun i hi => by rw [hkl, h0] at hi; omega⟩
    · refine ⟨_, c, rfl, by rw [hkl]; exact h4.1, by rw [hkl]; omega, fun i hi => ⟨g, 0, rfl, .inr ⟨h2, lt_of_block h3⟩, ?_, ?_⟩⟩
      · have hi2 : i < S.length := by rw [← hkl]; exact hi
        have := World.ownsRow.cells (g := g) hkr rfl i (.string (S[i]).1) (by simp [List.getElem?_eq_getElem hi2])
        simpa [Di.of, addr0] using this
      · have := hsz _ (List.getElem_mem (l := S) (by rw [← hkl]; exact hi))
        simpa [Di.of] using this
  have e2 : ∃ a cap, vi = .slice a S.length cap ∧ Kids (FrB M B w.heap.size) w a cap (Di.of S).kids := by
    rcases hir.2 with ⟨rfl, h0⟩ | ⟨g, c, cur, rfl, h2, h3, h4⟩
    · exact ⟨none, 0, by rw [h0], by rw [hil]; omega, by rw [hil]; omega, .inl (by rw [hil]; exact h0)⟩
    · refine ⟨_, c, rfl, by rw [hil]; exact h4.1, by rw [hil]; exact hb, .inr ⟨g, 0, rfl, .inr ⟨h2, lt_of_block h3⟩, ?_⟩⟩
      exact Flat.in (hfl.mono fun b hb => .inl hb) fun j u hj => by
        have := World.ownsRow.cells (g := g) hir rfl j u hj
        simpa [addr0] using this
  obtain ⟨ka, kc, rfl, hk⟩ := e1
  obtain ⟨a, cap, rfl, hi⟩ := e2
  exact ⟨ka, kc, a, cap, rfl, rfl, hfld, hk, hi⟩
end Go.Proofs.YtfkecmlmnhbmoaaGreatDoor
