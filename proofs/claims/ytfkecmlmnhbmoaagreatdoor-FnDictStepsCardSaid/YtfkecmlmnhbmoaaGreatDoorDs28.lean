import Derived.Test.YtfkecmlmnhbmoaaGreatDoorDs27
import Derived.Sort.KeysCollected
import Derived.Sort.Walk0
import Derived.Test.YtfkecmlmnhbmoaaGreatDoorDs01
namespace Go.Proofs.YtfkecmlmnhbmoaaGreatDoor
open Go.RowKit Go.Maps
/-! keys in their order -/
theorem keyGe_lt {a b : ByteArray} (h : keyGe a b = false) : a.data.toList < b.data.toList := by
  unfold keyGe at h
  rw [bytesLess_eq] at h
  rw [← ByteArray.toList_eq, ← ByteArray.toList_eq]
  simpa using h
/-- Keys ascend. -/
def Asc (keys : List ByteArray) : Prop := keys.Pairwise fun a b => a.data.toList < b.data.toList
theorem Asc.of : ∀ {keys : List ByteArray}, (∀ j (h : j + 1 < keys.length), (keys[j]).data.toList < (keys[j + 1]).data.toList) → Asc keys
  | [], _ => List.Pairwise.nil
  | [x], _ => by simp [Asc]
  | x :: z :: l, h => by
    have ih : Asc (z :: l) := Asc.of (keys := z :: l) fun j hj => h (j + 1) (by simpa using hj)
    refine List.pairwise_cons.2 ⟨fun y hy => ?_, ih⟩
    have hxz : x.data.toList < z.data.toList := h 0 (by simp)
    rcases List.mem_cons.1 hy with rfl | hy
    · exact hxz
    · exact List.lt_trans hxz ((List.pairwise_cons.1 ih).1 y hy)
theorem Asc.nodup {keys : List ByteArray} (h : Asc keys) : keys.Nodup := h.imp fun {a b} hab e => by subst e; exact absurd hab (List.lt_irrefl _)
theorem Asc.same : ∀ {a b : List ByteArray}, Asc a → Asc b → (∀ s, s ∈ a ↔ s ∈ b) → a = b := fun {a b} ha hb h => by
  refine List.Perm.eq_of_pairwise (le := fun x y : ByteArray => x.data.toList < y.data.toList) (fun x y _ _ h1 h2 => ?_) ha hb ((List.perm_ext_iff_of_nodup ha.nodup hb.nodup).2 h)
  exact absurd (List.lt_trans h1 h2) (List.lt_irrefl _)
theorem Good1.ascend {k i g : Int} {r : Nat} {s : ByteArray} {keys : List ByteArray} {kids : F} (h : Good1 k i g r s keys kids) (hk : k = 8) : Asc keys := Asc.of fun j hj => keyGe_lt (h.asc hk j hj)
theorem ba_data {a b : ByteArray} (h : a.data.toList = b.data.toList) : a = b := ByteArray.ext (Array.toList_inj.1 h)
/-- What was collected and sorted is the keys. -/
theorem sorted_is {keys : List ByteArray} (ha : Asc keys) {ss : List (List UInt8)} (hn : ss.Nodup) (hm : ∀ x, x ∈ ss ↔ (⟨x.toArray⟩ : ByteArray) ∈ keys) : (ss.mergeSort leB) = keys.map fun s => s.data.toList := by
  have hp : ss.Perm (keys.map fun s => s.data.toList) := by
    refine (List.perm_ext_iff_of_nodup hn ?_).2 fun x => ?_
    · exact List.pairwise_map.2 (ha.nodup.imp fun {a b} h e => h (ba_data e))
    · rw [hm x, List.mem_map]
      constructor
      · intro h; exact ⟨_, h, by simp⟩
      · rintro ⟨s, hs, rfl⟩; simpa using hs
  rw [mergeSort_of_perm hp]
  refine List.mergeSort_of_pairwise (List.pairwise_map.2 (ha.imp fun {a b} h => ?_))
  simp only [leB, decide_eq_true_eq]
  exact List.le_of_lt h
/-! what impl.object makes of an object -/
/-- The value that impl.object makes of an object without parts. -/
def LeafV (k i g : Int) (r : Nat) (s : ByteArray) (v : Value) : Prop :=
  (k = 0 ∧ v = .nilIface) ∨ (k = 1 ∧ i = 0 ∧ v = .iface 94 (.bool false)) ∨ (k = 1 ∧ i = 1 ∧ v = .iface 94 (.bool true)) ∨ (k = 2 ∧ v = .iface 95 (.int .i64 i)) ∨ (k = 3 ∧ v = .iface 96 (.float .f64 r)) ∨
  (k = 4 ∧ v = .iface 97 (.string s)) ∨ (k = 5 ∧ v = .iface 98 (.string s)) ∨ (k = 6 ∧ v = .iface 99 (.string s)) ∨ (k = 9 ∧ v = .iface 101 (.agg #[.int .i64 i, .int .i64 g]))
/-- The cells of a slice. -/
def RowIn (P : Nat → Prop) (w : World) (a : Option Addr) (xs : List Value) : Prop := ∀ j (h : j < xs.length), ∃ b o, a = some ⟨b, o, none⟩ ∧ P b ∧ w.cell? ⟨b, o + j, none⟩ = some xs[j]
/-- A map has just these keys, with these values. -/
structure MapIs (D : DataW Value) (keys : List ByteArray) (xs : List Value) : Prop where
  len : xs.length = keys.length
  has : ∀ s, Maps.has D (kl s) = true ↔ s ∈ keys
  val : ∀ (j : Nat) (s : ByteArray) (v : Value), keys[j]? = some s → xs[j]? = some v → D.atKey (kl s) (.held .nilIface) = .held v
/-- Values stand for objects. -/
def ObR (P : Nat → Prop) (w : World) : F → List Value → Prop
  | .nil, xs => xs = []
  | .cons k i g r s keys kids rest, xs => ∃ v tl, xs = v :: tl ∧
      (LeafV k i g r s v ∨ (k = 7 ∧ ∃ a cap ys, v = .iface 70 (.slice a kids.len cap) ∧ kids.len ≤ cap ∧ kids.len * 96 ≤ 140737488355328 ∧ RowIn P w a ys ∧ ObR P w kids ys) ∨
        (k = 8 ∧ ∃ b n D ys, v = .iface 61 (.map (some b)) ∧ P b ∧ keys.length * 96 ≤ 140737488355328 ∧ w.ownsMap Tryz.prog 9 RV b n D ∧ MapIs D keys ys ∧ ObR P w kids ys)) ∧ ObR P w rest tl
/-- A value stands for an object. -/
def Ob1 (P : Nat → Prop) (w : World) (k i g : Int) (r : Nat) (s : ByteArray) (keys : List ByteArray) (kids : F) (v : Value) : Prop :=
  LeafV k i g r s v ∨ (k = 7 ∧ ∃ a cap ys, v = .iface 70 (.slice a kids.len cap) ∧ kids.len ≤ cap ∧ kids.len * 96 ≤ 140737488355328 ∧ RowIn P w a ys ∧ ObR P w kids ys) ∨
    (k = 8 ∧ ∃ b n D ys, v = .iface 61 (.map (some b)) ∧ P b ∧ keys.length * 96 ≤ 140737488355328 ∧ w.ownsMap Tryz.prog 9 RV b n D ∧ MapIs D keys ys ∧ ObR P w kids ys)
theorem RowIn.kept {P : Nat → Prop} {w w' : World} {X : List Nat} {a : Option Addr} {xs : List Value} (h : RowIn P w a xs) (hk : Kept X w w') (hP : ∀ b, P b → b < w.heap.size ∧ b ∉ X) : RowIn P w' a xs := fun j hj => by
  obtain ⟨b, o, ha, hb, hc⟩ := h j hj
  exact ⟨b, o, ha, hb, (hk.cell (hP _ hb).1 (hP _ hb).2).trans hc⟩
theorem RowIn.mono {P Q : Nat → Prop} (hM : ∀ b, P b → Q b) {w : World} {a : Option Addr} {xs : List Value} (h : RowIn P w a xs) : RowIn Q w a xs := fun j hj => by
  obtain ⟨b, o, ha, hb, hc⟩ := h j hj
  exact ⟨b, o, ha, hM _ hb, hc⟩
theorem RowIn.of {P : Nat → Prop} {w : World} {B E n cap : Nat} {a : Option Addr} {xs : List Value} (h : w.ownsRow B E 1 (.slice a n cap) n xs) (hP : ∀ b, B ≤ b → b < w.heap.size → P b) : RowIn P w a xs ∧ n = xs.length ∧ n ≤ cap := by
  have hl : xs.length = n := by have := h.1; omega
  rcases h.2 with ⟨hv, h0⟩ | ⟨g, c, cur, hv, hB, hg, hnc, hcm, hcs, htk⟩
  · cases hv
    exact ⟨fun j hj => by omega, hl.symm, by omega⟩
  · cases hv
    refine ⟨fun j hj => ⟨g, 0, rfl, hP g hB (lt_of_block hg), ?_⟩, hl.symm, hnc⟩
    have := h.cells (g := g) rfl j xs[j] (List.getElem?_eq_getElem hj)
    rwa [Addr.add_lit] at this
theorem owns_kept {w w' : World} {X : List Nat} {b n : Nat} {D : DataW Value} (h : w.ownsMap Tryz.prog 9 RV b n D) (hk : Kept X w w') (hb : b ∉ X) : w'.ownsMap Tryz.prog 9 RV b n D := by
  obtain ⟨es, clock, hbk, F, hs, hD⟩ := h
  exact ⟨es, clock, (hk.block b (lt_of_block hbk) hb).trans hbk, F, hs, hD⟩
theorem ObR.kept {P : Nat → Prop} {w w' : World} {X : List Nat} (hk : Kept X w w') (hP : ∀ b, P b → b < w.heap.size ∧ b ∉ X) : ∀ {f : F} {xs : List Value}, ObR P w f xs → ObR P w' f xs
  | .nil, _, h => h
  | .cons _ _ _ _ _ _ _ _, _, ⟨v, tl, e, ho, hr⟩ => by
    refine ⟨v, tl, e, ?_, ObR.kept hk hP hr⟩
    rcases ho with h | ⟨h7, a, cap, ys, hv, h1, h2, h3, h4⟩ | ⟨h8, b, n, D, ys, hv, h1, h2, h3, h4, h5⟩
    · exact .inl h
    · exact .inr (.inl ⟨h7, a, cap, ys, hv, h1, h2, h3.kept hk hP, ObR.kept hk hP h4⟩)
    · exact .inr (.inr ⟨h8, b, n, D, ys, hv, h1, h2, owns_kept h3 hk (hP _ h1).2, h4, ObR.kept hk hP h5⟩)
theorem ObR.mono {P Q : Nat → Prop} (hM : ∀ b, P b → Q b) {w : World} : ∀ {f : F} {xs : List Value}, ObR P w f xs → ObR Q w f xs
  | .nil, _, h => h
  | .cons _ _ _ _ _ _ _ _, _, ⟨v, tl, e, ho, hr⟩ => by
    refine ⟨v, tl, e, ?_, ObR.mono hM hr⟩
    rcases ho with h | ⟨h7, a, cap, ys, hv, h1, h2, h3, h4⟩ | ⟨h8, b, n, D, ys, hv, h1, h2, h3, h4, h5⟩
    · exact .inl h
    · exact .inr (.inl ⟨h7, a, cap, ys, hv, h1, h2, h3.mono hM, ObR.mono hM h4⟩)
    · exact .inr (.inr ⟨h8, b, n, D, ys, hv, hM _ h1, h2, h3, h4, ObR.mono hM h5⟩)
theorem Ob1.kept {P : Nat → Prop} {w w' : World} {X : List Nat} {k i g : Int} {r : Nat} {s : ByteArray} {keys : List ByteArray} {kids : F} {v : Value} (ho : Ob1 P w k i g r s keys kids v) (hk : Kept X w w') (hP : ∀ b, P b → b < w.heap.size ∧ b ∉ X) : Ob1 P w' k i g r s keys kids v := by
  rcases ho with h | ⟨h7, a, cap, ys, hv, h1, h2, h3, h4⟩ | ⟨h8, b, n, D, ys, hv, h1, h2, h3, h4, h5⟩
  · exact .inl h
  · exact .inr (.inl ⟨h7, a, cap, ys, hv, h1, h2, h3.kept hk hP, ObR.kept hk hP h4⟩)
  · exact .inr (.inr ⟨h8, b, n, D, ys, hv, h1, h2, owns_kept h3 hk (hP _ h1).2, h4, ObR.kept hk hP h5⟩)
theorem Ob1.mono {P Q : Nat → Prop} (hM : ∀ b, P b → Q b) {w : World} {k i g : Int} {r : Nat} {s : ByteArray} {keys : List ByteArray} {kids : F} {v : Value} (ho : Ob1 P w k i g r s keys kids v) : Ob1 Q w k i g r s keys kids v := by
  rcases ho with h | ⟨h7, a, cap, ys, hv, h1, h2, h3, h4⟩ | ⟨h8, b, n, D, ys, hv, h1, h2, h3, h4, h5⟩
  · exact .inl h
  · exact .inr (.inl ⟨h7, a, cap, ys, hv, h1, h2, h3.mono hM, ObR.mono hM h4⟩)
  · exact .inr (.inr ⟨h8, b, n, D, ys, hv, hM _ h1, h2, h3, h4, ObR.mono hM h5⟩)
theorem ObR.len {P : Nat → Prop} {w : World} : ∀ {f : F} {xs : List Value}, ObR P w f xs → xs.length = f.len
  | .nil, _, h => by have h' : _ = [] := h; rw [h']; rfl
  | .cons _ _ _ _ _ _ _ _, _, ⟨v, tl, e, _, hr⟩ => by rw [e]; simp [F.len, ObR.len hr]
theorem ObR.snoc {P : Nat → Prop} {w : World} {k i g : Int} {r : Nat} {s : ByteArray} {keys : List ByteArray} {kids : F} {v : Value} (h1 : Ob1 P w k i g r s keys kids v) : ∀ {f : F} {xs : List Value}, ObR P w f xs → ObR P w (f.snoc k i g r s keys kids) (xs ++ [v])
  | .nil, _, h => by have h' : _ = [] := h; rw [h']; exact ⟨v, [], rfl, h1, rfl⟩
  | .cons _ _ _ _ _ _ _ _, _, ⟨v0, tl, e, ho, hr⟩ => by rw [e]; exact ⟨v0, tl ++ [v], rfl, ho, ObR.snoc h1 hr⟩
theorem ObR.drop {P : Nat → Prop} {w : World} : ∀ (n : Nat) {f : F} {xs : List Value}, ObR P w f xs → ObR P w (f.drop n) (xs.drop n)
  | 0, _, _, h => h
  | n + 1, .nil, _, h => by have h' : _ = [] := h; rw [h']; rfl
  | n + 1, .cons _ _ _ _ _ _ _ _, _, ⟨v, tl, e, _, hr⟩ => by rw [e]; exact ObR.drop n hr
theorem ObR.at {P : Nat → Prop} {w : World} {f : F} {xs : List Value} (h : ObR P w f xs) {j : Nat} {k i g : Int} {r : Nat} {s : ByteArray} {keys : List ByteArray} {kids rest : F} (hd : f.drop j = .cons k i g r s keys kids rest) : ∃ v, xs[j]? = some v ∧ Ob1 P w k i g r s keys kids v := by
  have h2 := h.drop j
  rw [hd] at h2
  obtain ⟨v, tl, e, ho, _⟩ := h2
  refine ⟨v, ?_, ho⟩
  rw [← List.head?_drop, e]; rfl
/-- A value of an interface. -/
def IfV (v : Value) : Prop := v = .nilIface ∨ ∃ t u, v = .iface t u
theorem Ob1.ifv {P : Nat → Prop} {w : World} {k i g : Int} {r : Nat} {s : ByteArray} {keys : List ByteArray} {kids : F} {v : Value} (ho : Ob1 P w k i g r s keys kids v) : IfV v := by
  rcases ho with (⟨_, h⟩ | ⟨_, _, h⟩ | ⟨_, _, h⟩ | ⟨_, h⟩ | ⟨_, h⟩ | ⟨_, h⟩ | ⟨_, h⟩ | ⟨_, h⟩ | ⟨_, h⟩) | ⟨_, _, _, _, h, _⟩ | ⟨_, _, _, _, _, h, _⟩
  · exact .inl h
  all_goals exact .inr ⟨_, _, h⟩
theorem Ob1.null {P : Nat → Prop} {w : World} {k i g : Int} {r : Nat} {s : ByteArray} {keys : List ByteArray} {kids : F} {v : Value} (ho : Ob1 P w k i g r s keys kids v) : v = .nilIface ↔ k = 0 := by
  rcases ho with (⟨h0, h⟩ | ⟨h0, _, h⟩ | ⟨h0, _, h⟩ | ⟨h0, h⟩ | ⟨h0, h⟩ | ⟨h0, h⟩ | ⟨h0, h⟩ | ⟨h0, h⟩ | ⟨h0, h⟩) | ⟨h0, _, _, _, h, _⟩ | ⟨h0, _, _, _, _, h, _⟩ <;> subst h0 <;> subst h <;> simp
end Go.Proofs.YtfkecmlmnhbmoaaGreatDoor
namespace Go.Proofs.YtfkecmlmnhbmoaaGreatDoor
open Go.RowKit Go.Maps
/-- What impl.object hands back. -/
def ObE (k i g : Int) (r : Nat) (s : ByteArray) (keys : List ByteArray) (kids : F) (w : World) (e : Ending) (w' : World) : Prop := Kept [] w w' ∧ ∃ v, e = .returned (.tuple #[v, .bool true]) ∧ Ob1 (Fr 0 w.heap.size w'.heap.size) w' k i g r s keys kids v
def ObC (k i g : Int) (r : Nat) (s : ByteArray) (keys : List ByteArray) (kids : F) : Prop := ∀ (N : Nat) (ka : Option Addr) (kc : Nat) (a : Option Addr) (cap : Nat) (w : World), Node (Lt N) w k i g r s keys kids ka kc a cap → N ≤ w.heap.size → Good1 k i g r s keys kids → Good kids →
  Calls Tryz.prog 30 #[.agg #[.int .i64 k, .int .i64 i, .int .i64 g, .float .f64 r, .string s, .slice ka keys.length kc, .slice a kids.len cap]] w (ObE k i g r s keys kids w)
theorem Good.drop : ∀ (n : Nat) {f : F}, Good f → Good (f.drop n)
  | 0, _, h => h
  | _ + 1, .nil, _ => trivial
  | n + 1, .cons _ _ _ _ _ _ _ rest, h => Good.drop n (f := rest) h.2.2
theorem Good.at {f : F} (h : Good f) {j : Nat} {k i g : Int} {r : Nat} {s : ByteArray} {keys : List ByteArray} {kids rest : F} (hd : f.drop j = .cons k i g r s keys kids rest) : Good1 k i g r s keys kids ∧ Good kids := by
  have := h.drop j
  rw [hd] at this
  exact ⟨this.1, this.2.1⟩
theorem kl_key (s : ByteArray) : WideAt.IsKeyLit (kl s) := trivial
/-- The first j keys are there, and no other. -/
def HasJ (D : DataW Value) (keys : List ByteArray) (j : Nat) : Prop := ∀ s, Maps.has D (kl s) = true ↔ ∃ i, i < j ∧ keys[i]? = some s
theorem HasJ.put {D : DataW Value} {keys : List ByteArray} {j : Nat} (h : HasJ D keys j) (hm : IsMap D) (hj : j < keys.length) (v : DataW Value) : HasJ (D.put (kl keys[j]) v) keys (j + 1) := by
  intro s
  by_cases e : s = keys[j]
  · subst e
    exact ⟨fun _ => ⟨j, by omega, List.getElem?_eq_getElem hj⟩, fun _ => has_put_same hm (kl_key _) v⟩
  · rw [has_put_other (fun h => e (kl_inj h)), h s]
    constructor
    · rintro ⟨i, hi, hs⟩; exact ⟨i, by omega, hs⟩
    · rintro ⟨i, hi, hs⟩
      refine ⟨i, ?_, hs⟩
      by_cases hij : i = j
      · subst hij
        rw [List.getElem?_eq_getElem hj] at hs
        exact absurd (Option.some.inj hs).symm e
      · omega
theorem HasJ.all {D : DataW Value} {keys : List ByteArray} (h : HasJ D keys keys.length) (s : ByteArray) : Maps.has D (kl s) = true ↔ s ∈ keys := by
  rw [h s, List.mem_iff_getElem?]
  constructor
  · rintro ⟨i, _, hs⟩; exact ⟨i, hs⟩
  · rintro ⟨i, hs⟩
    obtain ⟨hi, _⟩ := List.getElem?_eq_some_iff.1 hs
    exact ⟨i, hi, hs⟩
/-- The first j keys are there, with the first j values. -/
structure MapJ (D : DataW Value) (keys : List ByteArray) (ys : List Value) (j : Nat) : Prop where
  len : ys.length = j
  has : HasJ D keys j
  val : ∀ (i : Nat) (s : ByteArray) (v : Value), i < j → keys[i]? = some s → ys[i]? = some v → D.atKey (kl s) (.held .nilIface) = .held v
theorem MapJ.put {D : DataW Value} {keys : List ByteArray} {ys : List Value} {j : Nat} (h : MapJ D keys ys j) (hm : IsMap D) (hj : j < keys.length) (hn : keys.Nodup) (v : Value) : MapJ (D.put (kl keys[j]) (.held v)) keys (ys ++ [v]) (j + 1) := by
  refine ⟨by simp [h.len], h.has.put hm hj _, fun i s u hi hs hu => ?_⟩
  by_cases e : i = j
  · subst e
    rw [List.getElem?_eq_getElem hj] at hs
    cases hs
    rw [List.getElem?_append_right (by rw [h.len]; omega), h.len] at hu
    simp at hu
    subst hu
    exact atKey_put_same hm (kl_key _) _ _
  · have hij : i < j := by omega
    rw [List.getElem?_append_left (by rw [h.len]; omega)] at hu
    have hil : i < keys.length := by omega
    rw [List.getElem?_eq_getElem hil] at hs
    cases hs
    have hne : keys[i] ≠ keys[j] := (List.pairwise_iff_getElem.1 hn) i j hil hj hij
    rw [atKey_put_other (fun e => hne (kl_inj e))]
    exact h.val i _ u hij (List.getElem?_eq_getElem hil) hu
theorem MapJ.all {D : DataW Value} {keys : List ByteArray} {ys : List Value} (h : MapJ D keys ys keys.length) : MapIs D keys ys :=
  ⟨h.len, fun s => h.has.all s, fun j s v hs hv => by
    obtain ⟨hj, _⟩ := List.getElem?_eq_some_iff.1 hs
    exact h.val j s v hj hs hv⟩
/-- What impl.dict hands back. -/
def DiE (keys : List ByteArray) (kids : F) (w : World) (e : Ending) (w' : World) : Prop := Kept [] w w' ∧ ∃ b D ys, e = .returned (.tuple #[.map (some b), .bool true]) ∧ w.heap.size ≤ b ∧ w'.ownsMap Tryz.prog 9 RV b keys.length D ∧ MapIs D keys ys ∧ ObR (Fr 0 (b + 1) w'.heap.size) w' kids ys
structure DiL (w : World) (keys : List ByteArray) (kids : F) (v : Value) (wr : World) : Prop where
  ex : ∃ (j : Nat) (D : DataW Value) (ys : List Value), v = .int .i64 j ∧ j ≤ keys.length ∧ wr.ownsMap Tryz.prog 9 RV w.heap.size j D ∧ MapJ D keys ys j ∧ ObR (Fr 0 (w.heap.size + 1) wr.heap.size) wr (kids.take j) ys ∧ Kept [] w wr
set_option maxRecDepth 100000 in
set_option maxHeartbeats 3000000 in
theorem dictc (keys : List ByteArray) (kids : F) (N : Nat) (ka : Option Addr) (kc : Nat) (a : Option Addr) (cap : Nat) (w : World) (hkeys : KeysIn (Lt N) w ka kc keys) (hkids : Kids (Lt N) w a cap kids) (hN : N ≤ w.heap.size) (hlen : keys.length = kids.len) (hasc : Asc keys) (hg : Good kids) (ih : AllN ObC kids) :
    Calls Tryz.prog 28 #[.slice ka keys.length kc, .slice a kids.len cap] w (DiE keys kids w) := by
  have hmm := @run_makeMap Tryz.prog
  have hk1 : keys.length ≤ 140737488351232 := by have := hkeys.1; have := hkeys.2.1; omega
  have zl : (((keys.length : Nat) : Int) != ((kids.len : Nat) : Int)) = false := by rw [hlen]; simp
  have HKE := Lib.hid hkeys; have HKI := Lib.hid hkids; have HLE := Lib.hid hlen; have HG := Lib.hid hg; have HIH := Lib.hid ih; have HND := Lib.hid hasc.nodup; clear hkeys hkids hlen hg ih hasc
  go_enter Tryz.func28, Tryz.ntmps28
  go_wp2_with fail
  go_loopw [7, 8, 9, 19] (fun _ _ _ v wr => DiL w keys kids v wr) (fun _ _ _ v _ => keys.length - (intOf v).toNat)
  case atStart => exact ⟨0, .map [], [], rfl, by omega, World.ownsMap_made _ _ _ _, ⟨rfl, fun s => ⟨fun h => (by cases h), fun ⟨i, hi, _⟩ => (by omega)⟩, fun i s v hi => by omega⟩, rfl, (Kept.refl _ _).alloc _⟩
  case round =>
    obtain ⟨j, D, ys, rfl, hj, hown, hh, hob, hK⟩ := hrel
    have HH := Lib.hid hh; have HOB := Lib.hid hob; clear hh hob
    by_cases hlt : j < keys.length
    · obtain ⟨b, o, rfl, hbN, hc, hsz⟩ := (HKE.out.kept hK (ltk hN (by simp))).2.2 j hlt
      have hjk : j < kids.len := by have := HLE.out; omega
      obtain ⟨b2, o2, k', i', g', r', s', keys', kids', ka', kc', a', cap', rfl, hbN2, hd, hcs, hnode⟩ := (HKI.out.kept hK (ltk hN (by simp))).at hjk
      rw [Nat.mul_comm 7 j] at hcs
      obtain ⟨d0, d1, d2, d3, d4, d5, d6⟩ := hcs
      have hgd := HG.out.at hd
      have hcall := (HIH.out.at hd) N ka' kc' a' cap' wr hnode (Nat.le_trans hN hK.size) hgd.1 hgd.2
      have HC := Lib.hid hcall; have HD := Lib.hid hd; clear hcall hnode hgd hd
      have hkey := Go.WideMaps.keyOf_string_mk Tryz.underlying9 (s := keys[j]) (by unfold maxLen; omega)
      go_wp2_with fail
      refine HC.out.mono ?_
      rintro e w2 ⟨hK2, v, rfl, hv⟩
      have HV := Lib.hid hv; clear hv
      have hown2 := hown.kept (hK2.grown none) (by simp)
      have hbw : w.heap.size < wr.heap.size := hown.lt
      go_wp2_with (first
        | (at_mapUpdate; refine wpList_mapUpdate_own _ rfl _ _ _ 61 rfl 9 66 law9 Tryz.underlying61 RV w.heap.size j D rfl hown2 (by unfold maxLen; omega) _ _ (kl keys[j]) rfl rfl hkey (.held v) [] rfl ?_; intro w3 hown3 hg3; go_frame)
        | go_in)
      have hK3 : Kept [] w w3 := Kept.trans (Kept.trans (Z := []) hK hK2 (by simp) (by simp)) (Kept.of_grown (X := [w.heap.size]) hg3 (fun k hk => by cases hk; simp)) (by simp) (fun y hy hl => by simp at hy; omega)
      have hK23 : Kept [w.heap.size] w2 w3 := Kept.of_grown hg3 (fun k hk => by cases hk; simp)
      have hob3 : ObR (Fr 0 (w.heap.size + 1) w3.heap.size) w3 (kids.take (j + 1)) (ys ++ [v]) := by
        rw [F.take_succ j HD.out]
        refine ObR.snoc ((HV.out.kept hK23 fun b hb => ?_).mono fun b hb => ?_) (((HOB.out.kept hK2 fun b hb => ?_).kept hK23 fun b hb => ?_).mono fun b hb => ?_)
        · rcases hb with h | ⟨h1, h2⟩
          · omega
          · exact ⟨h2, by simp; omega⟩
        · rcases hb with h | ⟨h1, h2⟩
          · omega
          · exact .inr ⟨by omega, Nat.lt_of_lt_of_le h2 hK23.size⟩
        · rcases hb with h | ⟨h1, h2⟩
          · omega
          · exact ⟨h2, by simp⟩
        · rcases hb with h | ⟨h1, h2⟩
          · omega
          · exact ⟨Nat.lt_of_lt_of_le h2 hK2.size, by simp; omega⟩
        · rcases hb with h | ⟨h1, h2⟩
          · omega
          · exact .inr ⟨h1, Nat.lt_of_lt_of_le h2 (Nat.le_trans hK2.size hK23.size)⟩
      exact ⟨⟨j + 1, _, _, by go_num, by omega, hown3, HH.out.put hown.isMap hlt HND.out v, hob3, hK3⟩, by simp [intOf]; omega⟩
    · have hjl : j = keys.length := by omega
      subst hjl
      go_wp2_with fail
      go_ret2
      exact ⟨hK, _, D, ys, rfl, Nat.le_refl _, hown, HH.out.all, by have := HOB.out; rw [HLE.out, F.take_all] at this; exact this⟩
end Go.Proofs.YtfkecmlmnhbmoaaGreatDoor
namespace Go.Proofs.YtfkecmlmnhbmoaaGreatDoor
open Go.RowKit Go.Maps
/-- Blocks of the call's own, but for the row's. -/
def PB (H : Nat) (w : World) (v : Value) : Nat → Prop := fun b => H ≤ b ∧ b < w.heap.size ∧ v.ownBlock ≠ some b
structure OsL (w : World) (kids : F) (v4 v12 : Value) (wr : World) : Prop where
  ex : ∃ (j : Nat) (xs : List Value), v12 = .int .i64 j ∧ j ≤ kids.len ∧ wr.ownsRow w.heap.size 66 1 v4 j xs ∧ ObR (PB w.heap.size wr v4) wr (kids.take j) xs ∧ Kept [] w wr
def OsE (kids : F) (w : World) (e : Ending) (w' : World) : Prop := Kept [] w w' ∧ ∃ a cap xs, e = .returned (.tuple #[.slice a kids.len cap, .bool true]) ∧ kids.len ≤ cap ∧ RowIn (Fr 0 w.heap.size w'.heap.size) w' a xs ∧ ObR (Fr 0 w.heap.size w'.heap.size) w' kids xs
/-- A value more behind a row of the call's own. -/
theorem obs_snoc {H : Nat} {wr w2 w' : World} {u4 v' val : Value} {f : F} {xs : List Value} {k i g : Int} {r : Nat} {s : ByteArray} {keys : List ByteArray} {kids : F} (hob : ObR (PB H wr u4) wr f xs) (hK : Kept [] wr w2) (hrow : ∀ b, u4.ownBlock = some b → H ≤ b ∧ b < wr.heap.size) (hH : H ≤ wr.heap.size)
    (hval : Ob1 (Fr 0 wr.heap.size w2.heap.size) w2 k i g r s keys kids val) (hg : w2.grownBy w' u4.ownBlock) (hv : v'.ownBlock = u4.ownBlock ∨ ∃ g, v'.ownBlock = some g ∧ w2.heap.size ≤ g) :
    ObR (PB H w' v') w' (f.snoc k i g r s keys kids) (xs ++ [val]) := by
  have hKg : ∃ X, (∀ x ∈ X, u4.ownBlock = some x) ∧ Kept X w2 w' := by
    cases hu : u4.ownBlock with
    | none => exact ⟨[], by simp, Kept.of_grown hg (fun k hk => by rw [hu] at hk; cases hk)⟩
    | some b => exact ⟨[b], by simp, Kept.of_grown hg (fun k hk => by rw [hu] at hk; cases hk; simp)⟩
  obtain ⟨X, hX, hKX⟩ := hKg
  refine ObR.snoc ((hval.kept hKX fun b hb => ?_).mono fun b hb => ?_) (((hob.kept hK fun b hb => ?_).kept hKX fun b hb => ?_).mono fun b hb => ?_)
  · rcases hb with h | ⟨h1, h2⟩
    · omega
    · exact ⟨h2, fun hm => by have := (hrow b (hX b hm)).2; omega⟩
  · rcases hb with h | ⟨h1, h2⟩
    · omega
    · refine ⟨by omega, Nat.lt_of_lt_of_le h2 hKX.size, ?_⟩
      rcases hv with e | ⟨g, e, hg⟩
      · rw [e]; intro e2; have := (hrow b e2).2; omega
      · rw [e]; intro e2; cases e2; omega
  · exact ⟨hb.2.1, by simp⟩
  · exact ⟨Nat.lt_of_lt_of_le hb.2.1 hK.size, fun hm => hb.2.2 (hX b hm)⟩
  · refine ⟨hb.1, Nat.lt_of_lt_of_le hb.2.1 (Nat.le_trans hK.size hKX.size), ?_⟩
    rcases hv with e | ⟨g, e, hg⟩
    · rw [e]; exact hb.2.2
    · rw [e]; intro e2; cases e2; have := hb.2.1; have := hK.size; omega
theorem cells_one (w : World) (v : Value) (t : Nat) : ∀ (j : Nat) (u : Value), [v][j]? = some u → (w.alloc (.cells #[v] t)).cell? ((⟨w.heap.size, 0, none⟩ : Addr).add j) = some u := cells_new_at w #[v] t _ rfl
set_option maxRecDepth 100000 in
set_option maxHeartbeats 3000000 in
theorem objsc (kids : F) (N : Nat) (a : Option Addr) (cap : Nat) (w : World) (hkids : Kids (Lt N) w a cap kids) (hN : N ≤ w.heap.size) (hg : Good kids) (ih : AllN ObC kids) :
    Calls Tryz.prog 51 #[.slice a kids.len cap] w (OsE kids w) := by
  have hk2 : kids.len * 96 ≤ 140737488355328 := hkids.2.1
  have HKI := Lib.hid hkids; have HG := Lib.hid hg; have HIH := Lib.hid ih; clear hkids hg ih
  go_enter Tryz.func51, Tryz.ntmps51
  go_wp2_with fail
  go_loopw [4, 6, 7, 8, 12] (fun v4 _ _ _ v12 wr => OsL w kids v4 v12 wr) (fun _ _ _ _ v _ => kids.len - (intOf v).toNat)
  case atStart => exact ⟨0, [], rfl, by omega, ⟨rfl, .inr ⟨w.heap.size, 0, #[], rfl, Nat.le_refl _, heap_at rfl, by omega, by omega, rfl, rfl⟩⟩, rfl, (Kept.refl _ _).alloc _⟩
  case round =>
    obtain ⟨j, xs, rfl, hj, hown, hob, hK⟩ := hrel
    have HOB := Lib.hid hob; clear hob
    by_cases hlt : j < kids.len
    · obtain ⟨b2, o2, k', i', g', r', s', keys', kids', ka', kc', a', cap', rfl, hbN2, hd, hcs, hnode⟩ := (HKI.out.kept hK (ltk hN (by simp))).at hlt
      rw [Nat.mul_comm 7 j] at hcs
      obtain ⟨d0, d1, d2, d3, d4, d5, d6⟩ := hcs
      have hgd := HG.out.at hd
      have hNr := Nat.le_trans hN hK.size
      have hcall := fun W (hW : Kept [] wr W) => (HIH.out.at hd) N ka' kc' a' cap' W (hnode.kept hW (ltk hNr (by simp))) (Nat.le_trans hNr hW.size) hgd.1 hgd.2
      have HC := Lib.hid hcall; have HD := Lib.hid hd; clear hcall hnode hgd hd
      have hbytes : (j + 1) * 16 ≤ 140737488355328 := by omega
      go_wp2_with fail
      refine (HC.out _ ((Kept.refl [] wr).alloc _)).mono ?_
      rintro e w2 ⟨hK2, v, rfl, hv⟩
      have hK3 : Kept [] wr w2 := Kept.trans ((Kept.refl [] wr).alloc _) hK2 (by simp) (by simp)
      have hws : w.heap.size ≤ w2.heap.size := Nat.le_trans hK.size hK3.size
      have HV := Lib.hid hv
      rcases hv.ifv with rfl | ⟨t, u, rfl⟩
      · skip
        obtain ⟨i0, hi, hz0, hz1, hz2⟩ := info_parts Tryz.info66
        have hown2 : w2.ownsRow w.heap.size 66 1 u4 j xs := hown.kept (hK3.grown none) (by cases u4.ownBlock <;> simp)
        go_wp2_with (at_builtin; go_must (refine app1 rfl _ _ 70 66 i0 .nilIface 1 16 rfl Tryz.underlying70 hi hz0 hz1 hz2 rfl (by decide) rfl (hown2.alloc _) ⟨w2.heap.size, 0, none⟩ [.nilIface] rfl rfl ?c1 ?c2 hbytes (by decide) ?c5 ?_))
        case c1 => exact cells_one _ _ _
        case c2 => simp [Value.oneCell']
        case c5 => simp; omega
        intro v' w' hrow' hg' hv'
        have hK5 : Kept [] w w' := by
          have h1 : Kept [] w (w2.alloc (.cells #[.nilIface] 66)) := (Kept.trans (Z := []) hK hK3 (by simp) (by simp)).alloc _
          cases hvo : u4.ownBlock with
          | none => exact Kept.trans h1 (Kept.of_grown (X := []) hg' (fun k hk => by rw [hvo] at hk; cases hk)) (by simp) (by simp)
          | some b => exact Kept.trans h1 (Kept.of_grown (X := [b]) hg' (fun k hk => by rw [hvo] at hk; cases hk; simp)) (by simp) (fun y hy hl => by simp at hy; subst hy; have := hown.lt _ hvo; omega)
        have hob' : ObR (PB w.heap.size w' v') w' (kids.take (j + 1)) (xs ++ [.nilIface]) := by
          rw [F.take_succ j HD.out]
          refine obs_snoc (w2 := w2.alloc (.cells #[.nilIface] 66)) HOB.out (hK3.alloc _) hown.lt hK.size ((HV.out.kept ((Kept.refl [] w2).alloc _) fun b hb => ?_).mono fun b hb => ?_) hg' (by simpa using hv')
          · rcases hb with h | ⟨h1, h2⟩
            · omega
            · exact ⟨h2, by simp⟩
          · rcases hb with h | ⟨h1, h2⟩
            · omega
            · exact .inr ⟨by simp at h1; omega, by simp; omega⟩
        have HR := Lib.hid hrow'; have HK5 := Lib.hid hK5; have HO' := Lib.hid hob'; clear hrow' hK5 hg' hv' hob'
        go_wp2_with fail
        exact ⟨⟨j + 1, _, by go_num, by omega, HR.out, HO'.out, HK5.out⟩, by simp [intOf]; omega⟩
      · skip
        obtain ⟨i0, hi, hz0, hz1, hz2⟩ := info_parts Tryz.info66
        have hown2 : w2.ownsRow w.heap.size 66 1 u4 j xs := hown.kept (hK3.grown none) (by cases u4.ownBlock <;> simp)
        go_wp2_with (at_builtin; go_must (refine app1 rfl _ _ 70 66 i0 .nilIface 1 16 rfl Tryz.underlying70 hi hz0 hz1 hz2 rfl (by decide) rfl (hown2.alloc _) ⟨w2.heap.size, 0, none⟩ [(.iface t u)] rfl rfl ?c1 ?c2 hbytes (by decide) ?c5 ?_))
        case c1 => exact cells_one _ _ _
        case c2 => simp [Value.oneCell']
        case c5 => simp; omega
        intro v' w' hrow' hg' hv'
        have hK5 : Kept [] w w' := by
          have h1 : Kept [] w (w2.alloc (.cells #[(.iface t u)] 66)) := (Kept.trans (Z := []) hK hK3 (by simp) (by simp)).alloc _
          cases hvo : u4.ownBlock with
          | none => exact Kept.trans h1 (Kept.of_grown (X := []) hg' (fun k hk => by rw [hvo] at hk; cases hk)) (by simp) (by simp)
          | some b => exact Kept.trans h1 (Kept.of_grown (X := [b]) hg' (fun k hk => by rw [hvo] at hk; cases hk; simp)) (by simp) (fun y hy hl => by simp at hy; subst hy; have := hown.lt _ hvo; omega)
        have hob' : ObR (PB w.heap.size w' v') w' (kids.take (j + 1)) (xs ++ [(.iface t u)]) := by
          rw [F.take_succ j HD.out]
          refine obs_snoc (w2 := w2.alloc (.cells #[(.iface t u)] 66)) HOB.out (hK3.alloc _) hown.lt hK.size ((HV.out.kept ((Kept.refl [] w2).alloc _) fun b hb => ?_).mono fun b hb => ?_) hg' (by simpa using hv')
          · rcases hb with h | ⟨h1, h2⟩
            · omega
            · exact ⟨h2, by simp⟩
          · rcases hb with h | ⟨h1, h2⟩
            · omega
            · exact .inr ⟨by simp at h1; omega, by simp; omega⟩
        have HR := Lib.hid hrow'; have HK5 := Lib.hid hK5; have HO' := Lib.hid hob'; clear hrow' hK5 hg' hv' hob'
        go_wp2_with fail
        exact ⟨⟨j + 1, _, by go_num, by omega, HR.out, HO'.out, HK5.out⟩, by simp [intOf]; omega⟩
    · have hjl : j = kids.len := by omega
      have hsl : ∃ a cap, u4 = .slice a j cap := by
        rcases hown.2 with ⟨rfl, h0⟩ | ⟨g, cap, cur, rfl, _⟩
        · exact ⟨none, 0, by rw [h0]⟩
        · exact ⟨_, cap, rfl⟩
      obtain ⟨a9, cap9, rfl⟩ := hsl
      obtain ⟨hri, hl, hcap⟩ := RowIn.of (P := Fr 0 w.heap.size wr.heap.size) hown (fun b h1 h2 => .inr ⟨h1, h2⟩)
      subst hjl
      have hob : ObR (Fr 0 w.heap.size wr.heap.size) wr kids xs := by have := HOB.out; rw [F.take_all] at this; exact this.mono fun b hb => .inr ⟨hb.1, hb.2.1⟩
      have HRI := Lib.hid hri; have HO := Lib.hid hob; clear hri hob hl
      go_wp2_with fail
      go_ret2
      exact ⟨hK, a9, cap9, xs, rfl, hcap, HRI.out, HO.out⟩
end Go.Proofs.YtfkecmlmnhbmoaaGreatDoor
namespace Go.Proofs.YtfkecmlmnhbmoaaGreatDoor
open Go.RowKit Go.Maps
theorem newref (i g : Int) (w : World) : Calls Tryz.prog 50 #[.int .i64 i, .int .i64 g] w fun e w' => e = .returned (.pointer (some ⟨w.heap.size, 0, none⟩)) ∧ w.alloc (.cells #[.int .i64 i, .int .i64 g] 101) = w' := by
  go_enter Tryz.func50, Tryz.ntmps50
  go_wp2_with fail
  go_ret
  exact ⟨rfl, rfl⟩
theorem fr_up {a b : Nat} (h : a ≤ b) (M : Nat) : ∀ x, Fr 0 b M x → Fr 0 a M x := fun x hx => by
  rcases hx with h1 | ⟨h1, h2⟩
  · exact .inl h1
  · exact .inr ⟨by omega, h2⟩
set_option maxRecDepth 100000 in
set_option maxHeartbeats 3000000 in
theorem ob_step (k i g : Int) (r : Nat) (s : ByteArray) (keys : List ByteArray) (kids : F) (ih : AllN ObC kids) : ObC k i g r s keys kids := by
  intro N ka kc a cap w hn hN hg1 hg
  have hk : k = 0 ∨ k = 1 ∨ k = 2 ∨ k = 3 ∨ k = 4 ∨ k = 5 ∨ k = 6 ∨ k = 7 ∨ k = 8 ∨ k = 9 := by have := hg1.lo; have := hg1.hi; omega
  have hlen := hg1.len
  have hasc := fun h => hg1.ascend h
  have hb01 := hg1.b01
  obtain ⟨⟨⟨k1, k2⟩, ⟨i1, i2⟩, ⟨g1, g2⟩, r1, s1⟩, hkeys, hkids⟩ := hn
  obtain ⟨w0, hw0⟩ : ∃ w0, w0 = w.alloc (.cells #[.int .i64 k, .int .i64 i, .int .i64 g, .float .f64 r, .string s, .slice ka keys.length kc, .slice a kids.len cap] 26) := ⟨_, rfl⟩
  have hK0 : Kept [] w w0 := by rw [hw0]; exact (Kept.refl [] w).alloc _
  have hX : w0.heap[w.heap.size]? = some (.cells #[.int .i64 k, .int .i64 i, .int .i64 g, .float .f64 r, .string s, .slice ka keys.length kc, .slice a kids.len cap] 26 (0, 0)) := by rw [hw0]; exact heap_at rfl
  obtain ⟨⟨c0, c1, c2, c3, c4, c5, c6⟩, _⟩ := seven hX
  have hkeys0 := hkeys.kept hK0 (ltk hN (by simp))
  have hkids0 := hkids.kept hK0 (ltk hN (by simp))
  have hN0 : N ≤ w0.heap.size := Nat.le_trans hN hK0.size
  have HKE := Lib.hid hkeys0; have HKI := Lib.hid hkids0; have HLE := Lib.hid hlen; have HAS := Lib.hid hasc; have HB1 := Lib.hid hb01; have HF1 := Lib.hid hkeys.2.1; have HF2 := Lib.hid hkids.2.1; have HG := Lib.hid hg; have HIH := Lib.hid ih; clear hX hkeys hkids hkeys0 hkids0 hlen hasc hb01 hg hg1 ih
  go_enter Tryz.func30, Tryz.ntmps30
  go_upto_region 1 with fail
  rw [← hw0]
  clear hw0
  rcases hk with rfl | rfl | rfl | rfl | rfl | rfl | rfl | rfl | rfl | rfl
  · skip
    go_wp2_with fail
    go_ret2
    exact ⟨hK0, _, rfl, .inl (by simp [LeafV])⟩
  · rcases HB1.out rfl with rfl | rfl
    · skip
      go_wp2_with fail
      go_ret2
      exact ⟨hK0, _, rfl, .inl (by simp [LeafV])⟩
    · skip
      go_wp2_with fail
      go_ret2
      exact ⟨hK0, _, rfl, .inl (by simp [LeafV])⟩
  · skip
    go_wp2_with fail
    go_ret2
    exact ⟨hK0, _, rfl, .inl (by simp [LeafV])⟩
  · skip
    go_wp2_with fail
    go_ret2
    exact ⟨hK0, _, rfl, .inl (by simp [LeafV])⟩
  · skip
    go_wp2_with fail
    go_ret2
    exact ⟨hK0, _, rfl, .inl (by simp [LeafV])⟩
  · skip
    go_wp2_with fail
    go_ret2
    exact ⟨hK0, _, rfl, .inl (by simp [LeafV])⟩
  · skip
    go_wp2_with fail
    go_ret2
    exact ⟨hK0, _, rfl, .inl (by simp [LeafV])⟩
  · go_wp2_with fail
    refine (objsc kids N a cap w0 HKI.out hN0 HG.out HIH.out).mono ?_
    rintro e w1 ⟨hK1, a1, cap1, xs, rfl, hcap, hri, hob⟩
    have hK2 : Kept [] w w1 := Kept.trans hK0 hK1 (by simp) (by simp)
    have HRI := Lib.hid hri; have HOB := Lib.hid hob; have hfr := fr_up hK0.size w1.heap.size; have HFR := Lib.hid hfr; clear hri hob hfr
    go_wp2_with fail
    go_ret2
    exact ⟨hK2, _, rfl, .inr (.inl ⟨rfl, a1, cap1, xs, rfl, hcap, HF2.out, HRI.out.mono HFR.out, HOB.out.mono HFR.out⟩)⟩
  · go_wp2_with fail
    refine (dictc keys kids N ka kc a cap w0 HKE.out HKI.out hN0 (HLE.out trivial) (HAS.out trivial) HG.out HIH.out).mono ?_
    rintro e w1 ⟨hK1, b, D, ys, rfl, hb, hown, hmi, hob⟩
    have hK2 : Kept [] w w1 := Kept.trans hK0 hK1 (by simp) (by simp)
    have hbl := hown.lt
    have hbig : keys.length * 96 ≤ 140737488355328 := by have := HLE.out trivial; have := HF2.out; omega
    have HO := Lib.hid hown; have HMI := Lib.hid hmi; have HOB := Lib.hid hob; have HBG := Lib.hid hbig; clear hown hmi hob hbig
    go_wp2_with fail
    go_ret2
    exact ⟨hK2, _, rfl, .inr (.inr ⟨rfl, b, _, D, ys, rfl, .inr ⟨Nat.le_trans hK0.size hb, hbl⟩, HBG.out, HO.out, HMI.out, HOB.out.mono fun x hx => by rcases hx with h | ⟨h1, h2⟩; exact absurd h (by omega); exact .inr ⟨by have := hK0.size; omega, h2⟩⟩)⟩
  · go_wp2_with fail
    refine (newref i g w0).mono ?_
    rintro e w1 ⟨rfl, rfl⟩
    have hK2 : Kept [] w (w0.alloc (.cells #[.int .i64 i, .int .i64 g] 101)) := hK0.alloc _
    go_wp2_with fail
    go_ret2
    exact ⟨hK2, _, rfl, .inl (by simp [LeafV])⟩
theorem ob_node (k i g : Int) (r : Nat) (s : ByteArray) (keys : List ByteArray) (kids : F) : ObC k i g r s keys kids := AllN.node ob_step k i g r s keys kids
theorem ob_all (kids : F) : AllN ObC kids := AllN.all ob_step kids
end Go.Proofs.YtfkecmlmnhbmoaaGreatDoor
namespace Go.Proofs.YtfkecmlmnhbmoaaGreatDoor
open Go.RowKit Go.Maps
/-- The first number from f0 on whose key is not among them. -/
structure FirstK (keys : List ByteArray) (pre : ByteArray) (f0 n : Nat) : Prop where
  ge : f0 ≤ n
  all : ∀ x, f0 ≤ x → x < n → pre ++ txtOf x ∈ keys
  not : pre ++ txtOf n ∉ keys
theorem FirstK.same {keys : List ByteArray} {pre : ByteArray} {f0 n m : Nat} (h : FirstK keys pre f0 n) (k : FirstK keys pre f0 m) : n = m := by
  rcases Nat.lt_trichotomy n m with h1 | h1 | h1
  · exact absurd (k.all n h.ge h1) h.not
  · exact h1
  · exact absurd (h.all m k.ge h1) k.not
end Go.Proofs.YtfkecmlmnhbmoaaGreatDoor
