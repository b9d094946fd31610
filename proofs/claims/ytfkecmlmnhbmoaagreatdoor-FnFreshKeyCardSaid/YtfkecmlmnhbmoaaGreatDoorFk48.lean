import Derived.Test.YtfkecmlmnhbmoaaGreatDoorFk47
import Derived.Sort.KeysCollected
import Derived.Sort.Walk0
import Derived.Test.YtfkecmlmnhbmoaaGreatDoorFk01
import Derived.Test.YtfkecmlmnhbmoaaGreatDoorFk46
import Derived.BigRegion
import Derived.Deep.RegionWith
import Derived.Deep.DeepCutAuto
namespace Go.Proofs.YtfkecmlmnhbmoaaGreatDoor
open Go.RowKit Go.Maps
/-! keys in their order -/
theorem keyGe_lt {a b : ByteArray} (h : keyGe a b = false) : a.data.toList < b.data.toList := by
  unfold keyGe at h
  rw [bytesLess_eq] at h
  rw [← ByteArray.toList_eq, ← ByteArray.toList_eq]
  simpa using h
/-- Keys ascend. -/
def Asc (keys : List ByteArray) : Prop := keys.Pairwise fun a b => a.data.toList < b.data.toList
theorem Asc.of : ∀ {keys : List ByteArray}, (∀ j (h : j + 1 < keys.length), (keys[j]).data.toList < (keys[j + 1]).data.toList) → Asc keys
  | [], _ => List.Pairwise.nil
  | [x], _ => by simp [Asc]
  | x :: z :: l, h => by
    have ih : Asc (z :: l) := Asc.of (keys := z :: l) fun j hj => h (j + 1) (by simpa using hj)
    refine List.pairwise_cons.2 ⟨fun y hy => ?_, ih⟩
    have hxz : x.data.toList < z.data.toList := h 0 (by simp)
    rcases List.mem_cons.1 hy with rfl | hy
    · exact hxz
    · exact List.lt_trans hxz ((List.pairwise_cons.1 ih).1 y hy)
theorem Asc.nodup {keys : List ByteArray} (h : Asc keys) : keys.Nodup := h.imp fun {a b} hab e => by subst e; exact absurd hab (List.lt_irrefl _)
theorem Asc.same : ∀ {a b : List ByteArray}, Asc a → Asc b → (∀ s, s ∈ a ↔ s ∈ b) → a = b := fun {a b} ha hb h => by
  refine List.Perm.eq_of_pairwise (le := fun x y : ByteArray => x.data.toList < y.data.toList) (fun x y _ _ h1 h2 => ?_) ha hb ((List.perm_ext_iff_of_nodup ha.nodup hb.nodup).2 h)
  exact absurd (List.lt_trans h1 h2) (List.lt_irrefl _)
theorem Good1.ascend {k i g : Int} {r : Nat} {s : ByteArray} {keys : List ByteArray} {kids : F} (h : Good1 k i g r s keys kids) (hk : k = 8) : Asc keys := Asc.of fun j hj => keyGe_lt (h.asc hk j hj)
/-! what impl.object makes of an object -/
/-- The value that impl.object makes of an object without parts. -/
def LeafV (k i g : Int) (r : Nat) (s : ByteArray) (v : Value) : Prop :=
  (k = 0 ∧ v = .nilIface) ∨ (k = 1 ∧ i = 0 ∧ v = .iface 94 (.bool false)) ∨ (k = 1 ∧ i = 1 ∧ v = .iface 94 (.bool true)) ∨ (k = 2 ∧ v = .iface 95 (.int .i64 i)) ∨ (k = 3 ∧ v = .iface 96 (.float .f64 r)) ∨
  (k = 4 ∧ v = .iface 97 (.string s)) ∨ (k = 5 ∧ v = .iface 98 (.string s)) ∨ (k = 6 ∧ v = .iface 99 (.string s)) ∨ (k = 9 ∧ v = .iface 101 (.agg #[.int .i64 i, .int .i64 g]))
/-- The cells of a slice. -/
def RowIn (P : Nat → Prop) (w : World) (a : Option Addr) (xs : List Value) : Prop := ∀ j (h : j < xs.length), ∃ b o, a = some ⟨b, o, none⟩ ∧ P b ∧ w.cell? ⟨b, o + j, none⟩ = some xs[j]
/-- A map has just these keys, with these values. -/
structure MapIs (D : DataW Value) (keys : List ByteArray) (xs : List Value) : Prop where
  len : xs.length = keys.length
  has : ∀ s, Maps.has D (kl s) = true ↔ s ∈ keys
  val : ∀ (j : Nat) (s : ByteArray) (v : Value), keys[j]? = some s → xs[j]? = some v → D.atKey (kl s) (.held .nilIface) = .held v
/-- Values stand for objects. -/
def ObR (P : Nat → Prop) (w : World) : F → List Value → Prop
  | .nil, xs => xs = []
  | .cons k i g r s keys kids rest, xs => ∃ v tl, xs = v :: tl ∧
      (LeafV k i g r s v ∨ (k = 7 ∧ ∃ a cap ys, v = .iface 70 (.slice a kids.len cap) ∧ kids.len ≤ cap ∧ kids.len * 96 ≤ 140737488355328 ∧ RowIn P w a ys ∧ ObR P w kids ys) ∨
        (k = 8 ∧ ∃ b n D ys, v = .iface 61 (.map (some b)) ∧ P b ∧ keys.length * 96 ≤ 140737488355328 ∧ w.ownsMap Tryz.prog 9 RV b n D ∧ MapIs D keys ys ∧ ObR P w kids ys)) ∧ ObR P w rest tl
/-- A value stands for an object. -/
def Ob1 (P : Nat → Prop) (w : World) (k i g : Int) (r : Nat) (s : ByteArray) (keys : List ByteArray) (kids : F) (v : Value) : Prop :=
  LeafV k i g r s v ∨ (k = 7 ∧ ∃ a cap ys, v = .iface 70 (.slice a kids.len cap) ∧ kids.len ≤ cap ∧ kids.len * 96 ≤ 140737488355328 ∧ RowIn P w a ys ∧ ObR P w kids ys) ∨
    (k = 8 ∧ ∃ b n D ys, v = .iface 61 (.map (some b)) ∧ P b ∧ keys.length * 96 ≤ 140737488355328 ∧ w.ownsMap Tryz.prog 9 RV b n D ∧ MapIs D keys ys ∧ ObR P w kids ys)
theorem RowIn.kept {P : Nat → Prop} {w w' : World} {X : List Nat} {a : Option Addr} {xs : List Value} (h : RowIn P w a xs) (hk : Kept X w w') (hP : ∀ b, P b → b < w.heap.size ∧ b ∉ X) : RowIn P w' a xs := fun j hj => by
  obtain ⟨b, o, ha, hb, hc⟩ := h j hj
  exact ⟨b, o, ha, hb, (hk.cell (hP _ hb).1 (hP _ hb).2).trans hc⟩
theorem RowIn.mono {P Q : Nat → Prop} (hM : ∀ b, P b → Q b) {w : World} {a : Option Addr} {xs : List Value} (h : RowIn P w a xs) : RowIn Q w a xs := fun j hj => by
  obtain ⟨b, o, ha, hb, hc⟩ := h j hj
  exact ⟨b, o, ha, hM _ hb, hc⟩
theorem RowIn.of {P : Nat → Prop} {w : World} {B E n cap : Nat} {a : Option Addr} {xs : List Value} (h : w.ownsRow B E 1 (.slice a n cap) n xs) (hP : ∀ b, B ≤ b → b < w.heap.size → P b) : RowIn P w a xs ∧ n = xs.length ∧ n ≤ cap := by
  have hl : xs.length = n := by have := h.1; omega
  rcases h.2 with ⟨hv, h0⟩ | ⟨g, c, cur, hv, hB, hg, hnc, hcm, hcs, htk⟩
  · cases hv
    exact ⟨fun j hj => by omega, hl.symm, by omega⟩
  · cases hv
    refine ⟨fun j hj => ⟨g, 0, rfl, hP g hB (lt_of_block hg), ?_⟩, hl.symm, hnc⟩
    have := h.cells (g := g) rfl j xs[j] (List.getElem?_eq_getElem hj)
    rwa [Addr.add_lit] at this
theorem owns_kept {w w' : World} {X : List Nat} {b n : Nat} {D : DataW Value} (h : w.ownsMap Tryz.prog 9 RV b n D) (hk : Kept X w w') (hb : b ∉ X) : w'.ownsMap Tryz.prog 9 RV b n D := by
  obtain ⟨es, clock, hbk, F, hs, hD⟩ := h
  exact ⟨es, clock, (hk.block b (lt_of_block hbk) hb).trans hbk, F, hs, hD⟩
theorem ObR.kept {P : Nat → Prop} {w w' : World} {X : List Nat} (hk : Kept X w w') (hP : ∀ b, P b → b < w.heap.size ∧ b ∉ X) : ∀ {f : F} {xs : List Value}, ObR P w f xs → ObR P w' f xs
  | .nil, _, h => h
  | .cons _ _ _ _ _ _ _ _, _, ⟨v, tl, e, ho, hr⟩ => by
    refine ⟨v, tl, e, ?_, ObR.kept hk hP hr⟩
    rcases ho with h | ⟨h7, a, cap, ys, hv, h1, h2, h3, h4⟩ | ⟨h8, b, n, D, ys, hv, h1, h2, h3, h4, h5⟩
    · exact .inl h
    · exact .inr (.inl ⟨h7, a, cap, ys, hv, h1, h2, h3.kept hk hP, ObR.kept hk hP h4⟩)
    · exact .inr (.inr ⟨h8, b, n, D, ys, hv, h1, h2, owns_kept h3 hk (hP _ h1).2, h4, ObR.kept hk hP h5⟩)
theorem ObR.mono {P Q : Nat → Prop} (hM : ∀ b, P b → Q b) {w : World} : ∀ {f : F} {xs : List Value}, ObR P w f xs → ObR Q w f xs
  | .nil, _, h => h
  | .cons _ _ _ _ _ _ _ _, _, ⟨v, tl, e, ho, hr⟩ => by
    refine ⟨v, tl, e, ?_, ObR.mono hM hr⟩
    rcases ho with h | ⟨h7, a, cap, ys, hv, h1, h2, h3, h4⟩ | ⟨h8, b, n, D, ys, hv, h1, h2, h3, h4, h5⟩
    · exact .inl h
    · exact .inr (.inl ⟨h7, a, cap, ys, hv, h1, h2, h3.mono hM, ObR.mono hM h4⟩)
    · exact .inr (.inr ⟨h8, b, n, D, ys, hv, hM _ h1, h2, h3, h4, ObR.mono hM h5⟩)
theorem Ob1.kept {P : Nat → Prop} {w w' : World} {X : List Nat} {k i g : Int} {r : Nat} {s : ByteArray} {keys : List ByteArray} {kids : F} {v : Value} (ho : Ob1 P w k i g r s keys kids v) (hk : Kept X w w') (hP : ∀ b, P b → b < w.heap.size ∧ b ∉ X) : Ob1 P w' k i g r s keys kids v := by
  rcases ho with h | ⟨h7, a, cap, ys, hv, h1, h2, h3, h4⟩ | ⟨h8, b, n, D, ys, hv, h1, h2, h3, h4, h5⟩
  · exact .inl h
  · exact .inr (.inl ⟨h7, a, cap, ys, hv, h1, h2, h3.kept hk hP, ObR.kept hk hP h4⟩)
  · exact .inr (.inr ⟨h8, b, n, D, ys, hv, h1, h2, owns_kept h3 hk (hP _ h1).2, h4, ObR.kept hk hP h5⟩)
theorem Ob1.mono {P Q : Nat → Prop} (hM : ∀ b, P b → Q b) {w : World} {k i g : Int} {r : Nat} {s : ByteArray} {keys : List ByteArray} {kids : F} {v : Value} (ho : Ob1 P w k i g r s keys kids v) : Ob1 Q w k i g r s keys kids v := by
  rcases ho with h | ⟨h7, a, cap, ys, hv, h1, h2, h3, h4⟩ | ⟨h8, b, n, D, ys, hv, h1, h2, h3, h4, h5⟩
  · exact .inl h
  · exact .inr (.inl ⟨h7, a, cap, ys, hv, h1, h2, h3.mono hM, ObR.mono hM h4⟩)
  · exact .inr (.inr ⟨h8, b, n, D, ys, hv, hM _ h1, h2, h3, h4, ObR.mono hM h5⟩)
theorem ObR.len {P : Nat → Prop} {w : World} : ∀ {f : F} {xs : List Value}, ObR P w f xs → xs.length = f.len
  | .nil, _, h => by have h' : _ = [] := h; rw [h']; rfl
  | .cons _ _ _ _ _ _ _ _, _, ⟨v, tl, e, _, hr⟩ => by rw [e]; simp [F.len, ObR.len hr]
theorem ObR.snoc {P : Nat → Prop} {w : World} {k i g : Int} {r : Nat} {s : ByteArray} {keys : List ByteArray} {kids : F} {v : Value} (h1 : Ob1 P w k i g r s keys kids v) : ∀ {f : F} {xs : List Value}, ObR P w f xs → ObR P w (f.snoc k i g r s keys kids) (xs ++ [v])
  | .nil, _, h => by have h' : _ = [] := h; rw [h']; exact ⟨v, [], rfl, h1, rfl⟩
  | .cons _ _ _ _ _ _ _ _, _, ⟨v0, tl, e, ho, hr⟩ => by rw [e]; exact ⟨v0, tl ++ [v], rfl, ho, ObR.snoc h1 hr⟩
theorem ObR.drop {P : Nat → Prop} {w : World} : ∀ (n : Nat) {f : F} {xs : List Value}, ObR P w f xs → ObR P w (f.drop n) (xs.drop n)
  | 0, _, _, h => h
  | n + 1, .nil, _, h => by have h' : _ = [] := h; rw [h']; rfl
  | n + 1, .cons _ _ _ _ _ _ _ _, _, ⟨v, tl, e, _, hr⟩ => by rw [e]; exact ObR.drop n hr
theorem ObR.at {P : Nat → Prop} {w : World} {f : F} {xs : List Value} (h : ObR P w f xs) {j : Nat} {k i g : Int} {r : Nat} {s : ByteArray} {keys : List ByteArray} {kids rest : F} (hd : f.drop j = .cons k i g r s keys kids rest) : ∃ v, xs[j]? = some v ∧ Ob1 P w k i g r s keys kids v := by
  have h2 := h.drop j
  rw [hd] at h2
  obtain ⟨v, tl, e, ho, _⟩ := h2
  refine ⟨v, ?_, ho⟩
  rw [← List.head?_drop, e]; rfl
/-- A value of an interface. -/
def IfV (v : Value) : Prop := v = .nilIface ∨ ∃ t u, v = .iface t u
theorem Ob1.ifv {P : Nat → Prop} {w : World} {k i g : Int} {r : Nat} {s : ByteArray} {keys : List ByteArray} {kids : F} {v : Value} (ho : Ob1 P w k i g r s keys kids v) : IfV v := by
  rcases ho with (⟨_, h⟩ | ⟨_, _, h⟩ | ⟨_, _, h⟩ | ⟨_, h⟩ | ⟨_, h⟩ | ⟨_, h⟩ | ⟨_, h⟩ | ⟨_, h⟩ | ⟨_, h⟩) | ⟨_, _, _, _, h, _⟩ | ⟨_, _, _, _, _, h, _⟩
  · exact .inl h
  all_goals exact .inr ⟨_, _, h⟩
end Go.Proofs.YtfkecmlmnhbmoaaGreatDoor
namespace Go.Proofs.YtfkecmlmnhbmoaaGreatDoor
open Go.RowKit Go.Maps
/-- What impl.object hands back. -/
def ObE (k i g : Int) (r : Nat) (s : ByteArray) (keys : List ByteArray) (kids : F) (w : World) (e : Ending) (w' : World) : Prop := Kept [] w w' ∧ ∃ v, e = .returned (.tuple #[v, .bool true]) ∧ Ob1 (Fr 0 w.heap.size w'.heap.size) w' k i g r s keys kids v
def ObC (k i g : Int) (r : Nat) (s : ByteArray) (keys : List ByteArray) (kids : F) : Prop := ∀ (N : Nat) (ka : Option Addr) (kc : Nat) (a : Option Addr) (cap : Nat) (w : World), Node (Lt N) w k i g r s keys kids ka kc a cap → N ≤ w.heap.size → Good1 k i g r s keys kids → Good kids →
  Calls Tryz.prog 30 #[.agg #[.int .i64 k, .int .i64 i, .int .i64 g, .float .f64 r, .string s, .slice ka keys.length kc, .slice a kids.len cap]] w (ObE k i g r s keys kids w)
theorem Good.drop : ∀ (n : Nat) {f : F}, Good f → Good (f.drop n)
  | 0, _, h => h
  | _ + 1, .nil, _ => trivial
  | n + 1, .cons _ _ _ _ _ _ _ rest, h => Good.drop n (f := rest) h.2.2
theorem Good.at {f : F} (h : Good f) {j : Nat} {k i g : Int} {r : Nat} {s : ByteArray} {keys : List ByteArray} {kids rest : F} (hd : f.drop j = .cons k i g r s keys kids rest) : Good1 k i g r s keys kids ∧ Good kids := by
  have := h.drop j
  rw [hd] at this
  exact ⟨this.1, this.2.1⟩
theorem kl_key (s : ByteArray) : WideAt.IsKeyLit (kl s) := trivial
/-- The first j keys are there, and no other. -/
def HasJ (D : DataW Value) (keys : List ByteArray) (j : Nat) : Prop := ∀ s, Maps.has D (kl s) = true ↔ ∃ i, i < j ∧ keys[i]? = some s
theorem HasJ.put {D : DataW Value} {keys : List ByteArray} {j : Nat} (h : HasJ D keys j) (hm : IsMap D) (hj : j < keys.length) (v : DataW Value) : HasJ (D.put (kl keys[j]) v) keys (j + 1) := by
  intro s
  by_cases e : s = keys[j]
  · subst e
    exact ⟨fun _ => ⟨j, by omega, List.getElem?_eq_getElem hj⟩, fun _ => has_put_same hm (kl_key _) v⟩
  · rw [has_put_other (fun h => e (kl_inj h)), h s]
    constructor
    · rintro ⟨i, hi, hs⟩; exact ⟨i, by omega, hs⟩
    · rintro ⟨i, hi, hs⟩
      refine ⟨i, ?_, hs⟩
      by_cases hij : i = j
      · subst hij
        rw [List.getElem?_eq_getElem hj] at hs
        exact absurd (Option.some.inj hs).symm e
      · omega
theorem HasJ.all {D : DataW Value} {keys : List ByteArray} (h : HasJ D keys keys.length) (s : ByteArray) : Maps.has D (kl s) = true ↔ s ∈ keys := by
  rw [h s, List.mem_iff_getElem?]
  constructor
  · rintro ⟨i, _, hs⟩; exact ⟨i, hs⟩
  · rintro ⟨i, hs⟩
    obtain ⟨hi, _⟩ := List.getElem?_eq_some_iff.1 hs
    exact ⟨i, hi, hs⟩
/-- The first j keys are there, with the first j values. -/
structure MapJ (D : DataW Value) (keys : List ByteArray) (ys : List Value) (j : Nat) : Prop where
  len : ys.length = j
  has : HasJ D keys j
  val : ∀ (i : Nat) (s : ByteArray) (v : Value), i < j → keys[i]? = some s → ys[i]? = some v → D.atKey (kl s) (.held .nilIface) = .held v
theorem MapJ.put {D : DataW Value} {keys : List ByteArray} {ys : List Value} {j : Nat} (h : MapJ D keys ys j) (hm : IsMap D) (hj : j < keys.length) (hn : keys.Nodup) (v : Value) : MapJ (D.put (kl keys[j]) (.held v)) keys (ys ++ [v]) (j + 1) := by
  refine ⟨by simp [h.len], h.has.put hm hj _, fun i s u hi hs hu => ?_⟩
  by_cases e : i = j
  · subst e
    rw [List.getElem?_eq_getElem hj] at hs
    cases hs
    rw [List.getElem?_append_right (by rw [h.len]; omega), h.len] at hu
    simp at hu
    subst hu
    exact atKey_put_same hm (kl_key _) _ _
  · have hij : i < j := by omega
    rw [List.getElem?_append_left (by rw [h.len]; omega)] at hu
    have hil : i < keys.length := by omega
    rw [List.getElem?_eq_getElem hil] at hs
    cases hs
    have hne : keys[i] ≠ keys[j] := (List.pairwise_iff_getElem.1 hn) i j hil hj hij
    rw [atKey_put_other (fun e => hne (kl_inj e))]
    exact h.val i _ u hij (List.getElem?_eq_getElem hil) hu
theorem MapJ.all {D : DataW Value} {keys : List ByteArray} {ys : List Value} (h : MapJ D keys ys keys.length) : MapIs D keys ys :=
  ⟨h.len, fun s => h.has.all s, fun j s v hs hv => by
    obtain ⟨hj, _⟩ := List.getElem?_eq_some_iff.1 hs
    exact h.val j s v hj hs hv⟩
/-- What impl.dict hands back. -/
def DiE (keys : List ByteArray) (kids : F) (w : World) (e : Ending) (w' : World) : Prop := Kept [] w w' ∧ ∃ b D ys, e = .returned (.tuple #[.map (some b), .bool true]) ∧ w.heap.size ≤ b ∧ w'.ownsMap Tryz.prog 9 RV b keys.length D ∧ MapIs D keys ys ∧ ObR (Fr 0 (b + 1) w'.heap.size) w' kids ys
structure DiL (w : World) (keys : List ByteArray) (kids : F) (v : Value) (wr : World) : Prop where
  ex : ∃ (j : Nat) (D : DataW Value) (ys : List Value), v = .int .i64 j ∧ j ≤ keys.length ∧ wr.ownsMap Tryz.prog 9 RV w.heap.size j D ∧ MapJ D keys ys j ∧ ObR (Fr 0 (w.heap.size + 1) wr.heap.size) wr (kids.take j) ys ∧ Kept [] w wr
set_option maxRecDepth 100000 in
set_option maxHeartbeats 3000000 in
theorem dictc (keys : List ByteArray) (kids : F) (N : Nat) (ka : Option Addr) (kc : Nat) (a : Option Addr) (cap : Nat) (w : World) (hkeys : KeysIn (Lt N) w ka kc keys) (hkids : Kids (Lt N) w a cap kids) (hN : N ≤ w.heap.size) (hlen : keys.length = kids.len) (hasc : Asc keys) (hg : Good kids) (ih : AllN ObC kids) :
    Calls Tryz.prog 28 #[.slice ka keys.length kc, .slice a kids.len cap] w (DiE keys kids w) := by
  have hmm := @run_makeMap Tryz.prog
  have hk1 : keys.length ≤ 140737488351232 := by have := hkeys.1; have := hkeys.2.1; omega
  have zl : (((keys.length : Nat) : Int) != ((kids.len : Nat) : Int)) = false := by rw [hlen]; simp
  have HKE := Lib.hid hkeys; have HKI := Lib.hid hkids; have HLE := Lib.hid hlen; have HG := Lib.hid hg; have HIH := Lib.hid ih; have HND := Lib.hid hasc.nodup; clear hkeys hkids hlen hg ih hasc
  go_enter Tryz.func28, Tryz.ntmps28
  go_wp2_with fail
  go_loopw [7, 8, 9, 19] (fun _ _ _ v wr => DiL w keys kids v wr) (fun _ _ _ v _ => keys.length - (intOf v).toNat)
  case atStart => exact ⟨0, .map [], [], rfl, by omega, World.ownsMap_made _ _ _ _, ⟨rfl, fun s => ⟨fun h => (by cases h), fun ⟨i, hi, _⟩ => (by omega)⟩, fun i s v hi => by omega⟩, rfl, (Kept.refl _ _).alloc _⟩
  case round =>
    obtain ⟨j, D, ys, rfl, hj, hown, hh, hob, hK⟩ := hrel
    have HH := Lib.hid hh; have HOB := Lib.hid hob; clear hh hob
    by_cases hlt : j < keys.length
    · obtain ⟨b, o, rfl, hbN, hc, hsz⟩ := (HKE.out.kept hK (ltk hN (by simp))).2.2 j hlt
      have hjk : j < kids.len := by have := HLE.out; omega
      obtain ⟨b2, o2, k', i', g', r', s', keys', kids', ka', kc', a', cap', rfl, hbN2, hd, hcs, hnode⟩ := (HKI.out.kept hK (ltk hN (by simp))).at hjk
      rw [Nat.mul_comm 7 j] at hcs
      obtain ⟨d0, d1, d2, d3, d4, d5, d6⟩ := hcs
      have hgd := HG.out.at hd
      have hcall := (HIH.out.at hd) N ka' kc' a' cap' wr hnode (Nat.le_trans hN hK.size) hgd.1 hgd.2
      have HC := Lib.hid hcall; have HD := Lib.hid hd; clear hcall hnode hgd hd
      have hkey := Go.WideMaps.keyOf_string_mk Tryz.underlying9 (s := keys[j]) (by unfold maxLen; omega)
      go_wp2_with fail
      refine HC.out.mono ?_
      rintro e w2 ⟨hK2, v, rfl, hv⟩
      have HV := Lib.hid hv; clear hv
      have hown2 := hown.kept (hK2.grown none) (by simp)
      have hbw : w.heap.size < wr.heap.size := hown.lt
      go_wp2_with (first
        | (at_mapUpdate; refine wpList_mapUpdate_own _ rfl _ _ _ 61 rfl 9 66 law9 Tryz.underlying61 RV w.heap.size j D rfl hown2 (by unfold maxLen; omega) _ _ (kl keys[j]) rfl rfl hkey (.held v) [] rfl ?_; intro w3 hown3 hg3; go_frame)
        | go_in)
      have hK3 : Kept [] w w3 := Kept.trans (Kept.trans (Z := []) hK hK2 (by simp) (by simp)) (Kept.of_grown (X := [w.heap.size]) hg3 (fun k hk => by cases hk; simp)) (by simp) (fun y hy hl => by simp at hy; omega)
      have hK23 : Kept [w.heap.size] w2 w3 := Kept.of_grown hg3 (fun k hk => by cases hk; simp)
      have hob3 : ObR (Fr 0 (w.heap.size + 1) w3.heap.size) w3 (kids.take (j + 1)) (ys ++ [v]) := by
        rw [F.take_succ j HD.out]
        refine ObR.snoc ((HV.out.kept hK23 fun b hb => ?_).mono fun b hb => ?_) (((HOB.out.kept hK2 fun b hb => ?_).kept hK23 fun b hb => ?_).mono fun b hb => ?_)
        · rcases hb with h | ⟨h1, h2⟩
          · omega
          · exact ⟨h2, by simp; omega⟩
        · rcases hb with h | ⟨h1, h2⟩
          · omega
          · exact .inr ⟨by omega, Nat.lt_of_lt_of_le h2 hK23.size⟩
        · rcases hb with h | ⟨h1, h2⟩
          · omega
          · exact ⟨h2, by simp⟩
        · rcases hb with h | ⟨h1, h2⟩
          · omega
          · exact ⟨Nat.lt_of_lt_of_le h2 hK2.size, by simp; omega⟩
        · rcases hb with h | ⟨h1, h2⟩
          · omega
          · exact .inr ⟨h1, Nat.lt_of_lt_of_le h2 (Nat.le_trans hK2.size hK23.size)⟩
      exact ⟨⟨j + 1, _, _, by go_num, by omega, hown3, HH.out.put hown.isMap hlt HND.out v, hob3, hK3⟩, by simp [intOf]; omega⟩
    · have hjl : j = keys.length := by omega
      subst hjl
      go_wp2_with fail
      go_ret2
      exact ⟨hK, _, D, ys, rfl, Nat.le_refl _, hown, HH.out.all, by have := HOB.out; rw [HLE.out, F.take_all] at this; exact this⟩
end Go.Proofs.YtfkecmlmnhbmoaaGreatDoor
namespace Go.Proofs.YtfkecmlmnhbmoaaGreatDoor
open Go.RowKit Go.Maps
/-- Blocks of the call's own, but for the row's. -/
def PB (H : Nat) (w : World) (v : Value) : Nat → Prop := fun b => H ≤ b ∧ b < w.heap.size ∧ v.ownBlock ≠ some b
structure OsL (w : World) (kids : F) (v4 v12 : Value) (wr : World) : Prop where
  ex : ∃ (j : Nat) (xs : List Value), v12 = .int .i64 j ∧ j ≤ kids.len ∧ wr.ownsRow w.heap.size 66 1 v4 j xs ∧ ObR (PB w.heap.size wr v4) wr (kids.take j) xs ∧ Kept [] w wr
def OsE (kids : F) (w : World) (e : Ending) (w' : World) : Prop := Kept [] w w' ∧ ∃ a cap xs, e = .returned (.tuple #[.slice a kids.len cap, .bool true]) ∧ kids.len ≤ cap ∧ RowIn (Fr 0 w.heap.size w'.heap.size) w' a xs ∧ ObR (Fr 0 w.heap.size w'.heap.size) w' kids xs
/-- A value more behind a row of the call's own. -/
theorem obs_snoc {H : Nat} {wr w2 w' : World} {u4 v' val : Value} {f : F} {xs : List Value} {k i g : Int} {r : Nat} {s : ByteArray} {keys : List ByteArray} {kids : F} (hob : ObR (PB H wr u4) wr f xs) (hK : Kept [] wr w2) (hrow : ∀ b, u4.ownBlock = some b → H ≤ b ∧ b < wr.heap.size) (hH : H ≤ wr.heap.size)
    (hval : Ob1 (Fr 0 wr.heap.size w2.heap.size) w2 k i g r s keys kids val) (hg : w2.grownBy w' u4.ownBlock) (hv : v'.ownBlock = u4.ownBlock ∨ ∃ g, v'.ownBlock = some g ∧ w2.heap.size ≤ g) :
    ObR (PB H w' v') w' (f.snoc k i g r s keys kids) (xs ++ [val]) := by
  have hKg : ∃ X, (∀ x ∈ X, u4.ownBlock = some x) ∧ Kept X w2 w' := by
    cases hu : u4.ownBlock with
    | none => exact ⟨[], by simp, Kept.of_grown hg (fun k hk => by rw [hu] at hk; cases hk)⟩
    | some b => exact ⟨[b], by simp, Kept.of_grown hg (fun k hk => by rw [hu] at hk; cases hk; simp)⟩
  obtain ⟨X, hX, hKX⟩ := hKg
  refine ObR.snoc ((hval.kept hKX fun b hb => ?_).mono fun b hb => ?_) (((hob.kept hK fun b hb => ?_).kept hKX fun b hb => ?_).mono fun b hb => ?_)
  · rcases hb with h | ⟨h1, h2⟩
    · omega
    · exact ⟨h2, fun hm => by have := (hrow b (hX b hm)).2; omega⟩
  · rcases hb with h | ⟨h1, h2⟩
    · omega
    · refine ⟨by omega, Nat.lt_of_lt_of_le h2 hKX.size, ?_⟩
      rcases hv with e | ⟨g, e, hg⟩
      · rw [e]; intro e2; have := (hrow b e2).2; omega
      · rw [e]; intro e2; cases e2; omega
  · exact ⟨hb.2.1, by simp⟩
  · exact ⟨Nat.lt_of_lt_of_le hb.2.1 hK.size, fun hm => hb.2.2 (hX b hm)⟩
  · refine ⟨hb.1, Nat.lt_of_lt_of_le hb.2.1 (Nat.le_trans hK.size hKX.size), ?_⟩
    rcases hv with e | ⟨g, e, hg⟩
    · rw [e]; exact hb.2.2
    · rw [e]; intro e2; cases e2; have := hb.2.1; have := hK.size; omega
theorem cells_one (w : World) (v : Value) (t : Nat) : ∀ (j : Nat) (u : Value), [v][j]? = some u → (w.alloc (.cells #[v] t)).cell? ((⟨w.heap.size, 0, none⟩ : Addr).add j) = some u := cells_new_at w #[v] t _ rfl
set_option maxRecDepth 100000 in
set_option maxHeartbeats 3000000 in
theorem objsc (kids : F) (N : Nat) (a : Option Addr) (cap : Nat) (w : World) (hkids : Kids (Lt N) w a cap kids) (hN : N ≤ w.heap.size) (hg : Good kids) (ih : AllN ObC kids) :
    Calls Tryz.prog 51 #[.slice a kids.len cap] w (OsE kids w) := by
  have hk2 : kids.len * 96 ≤ 140737488355328 := hkids.2.1
  have HKI := Lib.hid hkids; have HG := Lib.hid hg; have HIH := Lib.hid ih; clear hkids hg ih
  go_enter Tryz.func51, Tryz.ntmps51
  go_wp2_with fail
  go_loopw [4, 6, 7, 8, 12] (fun v4 _ _ _ v12 wr => OsL w kids v4 v12 wr) (fun _ _ _ _ v _ => kids.len - (intOf v).toNat)
  case atStart => exact ⟨0, [], rfl, by omega, ⟨rfl, .inr ⟨w.heap.size, 0, #[], rfl, Nat.le_refl _, heap_at rfl, by omega, by omega, rfl, rfl⟩⟩, rfl, (Kept.refl _ _).alloc _⟩
  case round =>
    obtain ⟨j, xs, rfl, hj, hown, hob, hK⟩ := hrel
    have HOB := Lib.hid hob; clear hob
    by_cases hlt : j < kids.len
    · obtain ⟨b2, o2, k', i', g', r', s', keys', kids', ka', kc', a', cap', rfl, hbN2, hd, hcs, hnode⟩ := (HKI.out.kept hK (ltk hN (by simp))).at hlt
      rw [Nat.mul_comm 7 j] at hcs
      obtain ⟨d0, d1, d2, d3, d4, d5, d6⟩ := hcs
      have hgd := HG.out.at hd
      have hNr := Nat.le_trans hN hK.size
      have hcall := fun W (hW : Kept [] wr W) => (HIH.out.at hd) N ka' kc' a' cap' W (hnode.kept hW (ltk hNr (by simp))) (Nat.le_trans hNr hW.size) hgd.1 hgd.2
      have HC := Lib.hid hcall; have HD := Lib.hid hd; clear hcall hnode hgd hd
      have hbytes : (j + 1) * 16 ≤ 140737488355328 := by omega
      go_wp2_with fail
      refine (HC.out _ ((Kept.refl [] wr).alloc _)).mono ?_
      rintro e w2 ⟨hK2, v, rfl, hv⟩
      have hK3 : Kept [] wr w2 := Kept.trans ((Kept.refl [] wr).alloc _) hK2 (by simp) (by simp)
      have hws : w.heap.size ≤ w2.heap.size := Nat.le_trans hK.size hK3.size
      have HV := Lib.hid hv
      rcases hv.ifv with rfl | ⟨t, u, rfl⟩
      · skip
        obtain ⟨i0, hi, hz0, hz1, hz2⟩ := info_parts Tryz.info66
        have hown2 : w2.ownsRow w.heap.size 66 1 u4 j xs := hown.kept (hK3.grown none) (by cases u4.ownBlock <;> simp)
        go_wp2_with (at_builtin; go_must (refine app1 rfl _ _ 70 66 i0 .nilIface 1 16 rfl Tryz.underlying70 hi hz0 hz1 hz2 rfl (by decide) rfl (hown2.alloc _) ⟨w2.heap.size, 0, none⟩ [.nilIface] rfl rfl ?c1 ?c2 hbytes (by decide) ?c5 ?_))
        case c1 => exact cells_one _ _ _
        case c2 => simp [Value.oneCell']
        case c5 => simp; omega
        intro v' w' hrow' hg' hv'
        have hK5 : Kept [] w w' := by
          have h1 : Kept [] w (w2.alloc (.cells #[.nilIface] 66)) := (Kept.trans (Z := []) hK hK3 (by simp) (by simp)).alloc _
          cases hvo : u4.ownBlock with
          | none => exact Kept.trans h1 (Kept.of_grown (X := []) hg' (fun k hk => by rw [hvo] at hk; cases hk)) (by simp) (by simp)
          | some b => exact Kept.trans h1 (Kept.of_grown (X := [b]) hg' (fun k hk => by rw [hvo] at hk; cases hk; simp)) (by simp) (fun y hy hl => by simp at hy; subst hy; have := hown.lt _ hvo; omega)
        have hob' : ObR (PB w.heap.size w' v') w' (kids.take (j + 1)) (xs ++ [.nilIface]) := by
          rw [F.take_succ j HD.out]
          refine obs_snoc (w2 := w2.alloc (.cells #[.nilIface] 66)) HOB.out (hK3.alloc _) hown.lt hK.size ((HV.out.kept ((Kept.refl [] w2).alloc _) fun b hb => ?_).mono fun b hb => ?_) hg' (by simpa using hv')
          · rcases hb with h | ⟨h1, h2⟩
            · omega
            · exact ⟨h2, by simp⟩
          · rcases hb with h | ⟨h1, h2⟩
            · omega
            · exact .inr ⟨by simp at h1; omega, by simp; omega⟩
        have HR := Lib.hid hrow'; have HK5 := Lib.hid hK5; have HO' := Lib.hid hob'; clear hrow' hK5 hg' hv' hob'
        go_wp2_with fail
        exact ⟨⟨j + 1, _, by go_num, by omega, HR.out, HO'.out, HK5.out⟩, by simp [intOf]; omega⟩
      · skip
        obtain ⟨i0, hi, hz0, hz1, hz2⟩ := info_parts Tryz.info66
        have hown2 : w2.ownsRow w.heap.size 66 1 u4 j xs := hown.kept (hK3.grown none) (by cases u4.ownBlock <;> simp)
        go_wp2_with (at_builtin; go_must (refine app1 rfl _ _ 70 66 i0 .nilIface 1 16 rfl Tryz.underlying70 hi hz0 hz1 hz2 rfl (by decide) rfl (hown2.alloc _) ⟨w2.heap.size, 0, none⟩ [(.iface t u)] rfl rfl ?c1 ?c2 hbytes (by decide) ?c5 ?_))
        case c1 => exact cells_one _ _ _
        case c2 => simp [Value.oneCell']
        case c5 => simp; omega
        intro v' w' hrow' hg' hv'
        have hK5 : Kept [] w w' := by
          have h1 : Kept [] w (w2.alloc (.cells #[(.iface t u)] 66)) := (Kept.trans (Z := []) hK hK3 (by simp) (by simp)).alloc _
          cases hvo : u4.ownBlock with
          | none => exact Kept.trans h1 (Kept.of_grown (X := []) hg' (fun k hk => by rw [hvo] at hk; cases hk)) (by simp) (by simp)
          | some b => exact Kept.trans h1 (Kept.of_grown (X := [b]) hg' (fun k hk => by rw [hvo] at hk; cases hk; simp)) (by simp) (fun y hy hl => by simp at hy; subst hy; have := hown.lt _ hvo; omega)
        have hob' : ObR (PB w.heap.size w' v') w' (kids.take (j + 1)) (xs ++ [(.iface t u)]) := by
          rw [F.take_succ j HD.out]
          refine obs_snoc (w2 := w2.alloc (.cells #[(.iface t u)] 66)) HOB.out (hK3.alloc _) hown.lt hK.size ((HV.out.kept ((Kept.refl [] w2).alloc _) fun b hb => ?_).mono fun b hb => ?_) hg' (by simpa using hv')
          · rcases hb with h | ⟨h1, h2⟩
            · omega
            · exact ⟨h2, by simp⟩
          · rcases hb with h | ⟨h1, h2⟩
            · omega
            · exact .inr ⟨by simp at h1; omega, by simp; omega⟩
        have HR := Lib.hid hrow'; have HK5 := Lib.hid hK5; have HO' := Lib.hid hob'; clear hrow' hK5 hg' hv' hob'
        go_wp2_with fail
        exact ⟨⟨j + 1, _, by go_num, by omega, HR.out, HO'.out, HK5.out⟩, by simp [intOf]; omega⟩
    · have hjl : j = kids.len := by omega
      have hsl : ∃ a cap, u4 = .slice a j cap := by
        rcases hown.2 with ⟨rfl, h0⟩ | ⟨g, cap, cur, rfl, _⟩
        · exact ⟨none, 0, by rw [h0]⟩
        · exact ⟨_, cap, rfl⟩
      obtain ⟨a9, cap9, rfl⟩ := hsl
      obtain ⟨hri, hl, hcap⟩ := RowIn.of (P := Fr 0 w.heap.size wr.heap.size) hown (fun b h1 h2 => .inr ⟨h1, h2⟩)
      subst hjl
      have hob : ObR (Fr 0 w.heap.size wr.heap.size) wr kids xs := by have := HOB.out; rw [F.take_all] at this; exact this.mono fun b hb => .inr ⟨hb.1, hb.2.1⟩
      have HRI := Lib.hid hri; have HO := Lib.hid hob; clear hri hob hl
      go_wp2_with fail
      go_ret2
      exact ⟨hK, a9, cap9, xs, rfl, hcap, HRI.out, HO.out⟩
end Go.Proofs.YtfkecmlmnhbmoaaGreatDoor
namespace Go.Proofs.YtfkecmlmnhbmoaaGreatDoor
open Go.RowKit Go.Maps
theorem newref (i g : Int) (w : World) : Calls Tryz.prog 50 #[.int .i64 i, .int .i64 g] w fun e w' => e = .returned (.pointer (some ⟨w.heap.size, 0, none⟩)) ∧ w.alloc (.cells #[.int .i64 i, .int .i64 g] 101) = w' := by
  go_enter Tryz.func50, Tryz.ntmps50
  go_wp2_with fail
  go_ret
  exact ⟨rfl, rfl⟩
theorem fr_up {a b : Nat} (h : a ≤ b) (M : Nat) : ∀ x, Fr 0 b M x → Fr 0 a M x := fun x hx => by
  rcases hx with h1 | ⟨h1, h2⟩
  · exact .inl h1
  · exact .inr ⟨by omega, h2⟩
set_option maxRecDepth 100000 in
set_option maxHeartbeats 3000000 in
theorem ob_step (k i g : Int) (r : Nat) (s : ByteArray) (keys : List ByteArray) (kids : F) (ih : AllN ObC kids) : ObC k i g r s keys kids := by
  intro N ka kc a cap w hn hN hg1 hg
  have hk : k = 0 ∨ k = 1 ∨ k = 2 ∨ k = 3 ∨ k = 4 ∨ k = 5 ∨ k = 6 ∨ k = 7 ∨ k = 8 ∨ k = 9 := by have := hg1.lo; have := hg1.hi; omega
  have hlen := hg1.len
  have hasc := fun h => hg1.ascend h
  have hb01 := hg1.b01
  obtain ⟨⟨⟨k1, k2⟩, ⟨i1, i2⟩, ⟨g1, g2⟩, r1, s1⟩, hkeys, hkids⟩ := hn
  obtain ⟨w0, hw0⟩ : ∃ w0, w0 = w.alloc (.cells #[.int .i64 k, .int .i64 i, .int .i64 g, .float .f64 r, .string s, .slice ka keys.length kc, .slice a kids.len cap] 26) := ⟨_, rfl⟩
  have hK0 : Kept [] w w0 := by rw [hw0]; exact (Kept.refl [] w).alloc _
  have hX : w0.heap[w.heap.size]? = some (.cells #[.int .i64 k, .int .i64 i, .int .i64 g, .float .f64 r, .string s, .slice ka keys.length kc, .slice a kids.len cap] 26 (0, 0)) := by rw [hw0]; exact heap_at rfl
  obtain ⟨⟨c0, c1, c2, c3, c4, c5, c6⟩, _⟩ := seven hX
  have hkeys0 := hkeys.kept hK0 (ltk hN (by simp))
  have hkids0 := hkids.kept hK0 (ltk hN (by simp))
  have hN0 : N ≤ w0.heap.size := Nat.le_trans hN hK0.size
  have HKE := Lib.hid hkeys0; have HKI := Lib.hid hkids0; have HLE := Lib.hid hlen; have HAS := Lib.hid hasc; have HB1 := Lib.hid hb01; have HF1 := Lib.hid hkeys.2.1; have HF2 := Lib.hid hkids.2.1; have HG := Lib.hid hg; have HIH := Lib.hid ih; clear hX hkeys hkids hkeys0 hkids0 hlen hasc hb01 hg hg1 ih
  go_enter Tryz.func30, Tryz.ntmps30
  go_upto_region 1 with fail
  rw [← hw0]
  clear hw0
  rcases hk with rfl | rfl | rfl | rfl | rfl | rfl | rfl | rfl | rfl | rfl
  · skip
    go_wp2_with fail
    go_ret2
    exact ⟨hK0, _, rfl, .inl (by simp [LeafV])⟩
  · rcases HB1.out rfl with rfl | rfl
    · skip
      go_wp2_with fail
      go_ret2
      exact ⟨hK0, _, rfl, .inl (by simp [LeafV])⟩
    · skip
      go_wp2_with fail
      go_ret2
      exact ⟨hK0, _, rfl, .inl (by simp [LeafV])⟩
  · skip
    go_wp2_with fail
    go_ret2
    exact ⟨hK0, _, rfl, .inl (by simp [LeafV])⟩
  · skip
    go_wp2_with fail
    go_ret2
    exact ⟨hK0, _, rfl, .inl (by simp [LeafV])⟩
  · skip
    go_wp2_with fail
    go_ret2
    exact ⟨hK0, _, rfl, .inl (by simp [LeafV])⟩
  · skip
    go_wp2_with fail
    go_ret2
    exact ⟨hK0, _, rfl, .inl (by simp [LeafV])⟩
  · skip
    go_wp2_with fail
    go_ret2
    exact ⟨hK0, _, rfl, .inl (by simp [LeafV])⟩
  · go_wp2_with fail
    refine (objsc kids N a cap w0 HKI.out hN0 HG.out HIH.out).mono ?_
    rintro e w1 ⟨hK1, a1, cap1, xs, rfl, hcap, hri, hob⟩
    have hK2 : Kept [] w w1 := Kept.trans hK0 hK1 (by simp) (by simp)
    have HRI := Lib.hid hri; have HOB := Lib.hid hob; have hfr := fr_up hK0.size w1.heap.size; have HFR := Lib.hid hfr; clear hri hob hfr
    go_wp2_with fail
    go_ret2
    exact ⟨hK2, _, rfl, .inr (.inl ⟨rfl, a1, cap1, xs, rfl, hcap, HF2.out, HRI.out.mono HFR.out, HOB.out.mono HFR.out⟩)⟩
  · go_wp2_with fail
    refine (dictc keys kids N ka kc a cap w0 HKE.out HKI.out hN0 (HLE.out trivial) (HAS.out trivial) HG.out HIH.out).mono ?_
    rintro e w1 ⟨hK1, b, D, ys, rfl, hb, hown, hmi, hob⟩
    have hK2 : Kept [] w w1 := Kept.trans hK0 hK1 (by simp) (by simp)
    have hbl := hown.lt
    have hbig : keys.length * 96 ≤ 140737488355328 := by have := HLE.out trivial; have := HF2.out; omega
    have HO := Lib.hid hown; have HMI := Lib.hid hmi; have HOB := Lib.hid hob; have HBG := Lib.hid hbig; clear hown hmi hob hbig
    go_wp2_with fail
    go_ret2
    exact ⟨hK2, _, rfl, .inr (.inr ⟨rfl, b, _, D, ys, rfl, .inr ⟨Nat.le_trans hK0.size hb, hbl⟩, HBG.out, HO.out, HMI.out, HOB.out.mono fun x hx => by rcases hx with h | ⟨h1, h2⟩; exact absurd h (by omega); exact .inr ⟨by have := hK0.size; omega, h2⟩⟩)⟩
  · go_wp2_with fail
    refine (newref i g w0).mono ?_
    rintro e w1 ⟨rfl, rfl⟩
    have hK2 : Kept [] w (w0.alloc (.cells #[.int .i64 i, .int .i64 g] 101)) := hK0.alloc _
    go_wp2_with fail
    go_ret2
    exact ⟨hK2, _, rfl, .inl (by simp [LeafV])⟩
theorem ob_all (kids : F) : AllN ObC kids := AllN.all ob_step kids
end Go.Proofs.YtfkecmlmnhbmoaaGreatDoor
namespace Go.Proofs.YtfkecmlmnhbmoaaGreatDoor
open Go.RowKit Go.Maps
/-- The first number from f0 on whose key is not among them. -/
structure FirstK (keys : List ByteArray) (pre : ByteArray) (f0 n : Nat) : Prop where
  ge : f0 ≤ n
  all : ∀ x, f0 ≤ x → x < n → pre ++ txtOf x ∈ keys
  not : pre ++ txtOf n ∉ keys
theorem FirstK.same {keys : List ByteArray} {pre : ByteArray} {f0 n m : Nat} (h : FirstK keys pre f0 n) (k : FirstK keys pre f0 m) : n = m := by
  rcases Nat.lt_trichotomy n m with h1 | h1 | h1
  · exact absurd (k.all n h.ge h1) h.not
  · exact h1
  · exact absurd (h.all m k.ge h1) k.not
theorem pigk (keys : List ByteArray) (pre : ByteArray) (f0 j : Nat) (h : ∀ x, f0 ≤ x → x < f0 + j → pre ++ txtOf x ∈ keys) : j ≤ keys.length := by
  classical
  exact pigj (fun x => pre ++ txtOf (f0 + x)) (fun a b e => by have := txtOf_inj (pre_inj e); omega) keys j (fun x hx => h _ (by omega) (by omega))
set_option maxRecDepth 100000 in
set_option maxHeartbeats 3000000 in
theorem freshkey (i g : Int) (r : Nat) (s : ByteArray) (keys : List ByteArray) (kids : F) (N : Nat) (ka : Option Addr) (kc : Nat) (a : Option Addr) (cap : Nat) (pre : ByteArray) (f0 : Nat) (w : World) (hn : Node (Lt N) w 8 i g r s keys kids ka kc a cap) (ht : Tb N w) (hN : N ≤ w.heap.size)
    (hg1 : Good1 8 i g r s keys kids) (hg : Good kids) (hks : ∀ x ∈ keys, Simp x) (hp : pre.size ≤ 2147483647) (hf : f0 ≤ 1000) (hkl : keys.length ≤ 5000) :
    Calls Tryz.prog 14 #[.agg #[.int .i64 8, .int .i64 i, .int .i64 g, .float .f64 r, .string s, .slice ka keys.length kc, .slice a kids.len cap], .string pre, .int .i64 f0] w (fun e w' => Kept [] w w' ∧ ∃ n, e = .returned (.tuple #[.string (pre ++ txtOf n), .bool true]) ∧ FirstK keys pre f0 n) := by
  have hlen := hg1.len rfl
  have hasc := hg1.ascend rfl
  obtain ⟨⟨⟨k1, k2⟩, ⟨i1, i2⟩, ⟨g1, g2⟩, r1, s1⟩, hkeys, hkids⟩ := hn
  obtain ⟨w0, hw0⟩ : ∃ w0, w0 = w.alloc (.cells #[.int .i64 8, .int .i64 i, .int .i64 g, .float .f64 r, .string s, .slice ka keys.length kc, .slice a kids.len cap] 26) := ⟨_, rfl⟩
  have hK0 : Kept [] w w0 := by rw [hw0]; exact (Kept.refl [] w).alloc _
  have hX : w0.heap[w.heap.size]? = some (.cells #[.int .i64 8, .int .i64 i, .int .i64 g, .float .f64 r, .string s, .slice ka keys.length kc, .slice a kids.len cap] 26 (0, 0)) := by rw [hw0]; exact heap_at rfl
  obtain ⟨⟨c0, c1, c2, c3, c4, c5, c6⟩, _⟩ := seven hX
  have hkeys0 := hkeys.kept hK0 (ltk hN (by simp))
  have hkids0 := hkids.kept hK0 (ltk hN (by simp))
  have hN0 : N ≤ w0.heap.size := Nat.le_trans hN hK0.size
  have HX := Lib.hid hX
  have HKE := Lib.hid hkeys0; have HKI := Lib.hid hkids0; have HLE := Lib.hid hlen; have HG := Lib.hid hg; have HKS := Lib.hid hks; have HAS := Lib.hid hasc; clear hasc hX hkeys hkids hkeys0 hkids0 hlen hg hg1 hks
  go_enter Tryz.func14, Tryz.ntmps14
  go_upto_region 1 with fail
  rw [← hw0]
  clear hw0
  go_wp2_with fail
  refine (dictc keys kids N ka kc a cap w0 HKE.out HKI.out hN0 HLE.out HAS.out HG.out (ob_all kids)).mono ?_
  rintro e w1 ⟨hK1, b, D, ys, rfl, hb, hown, hmi, hob⟩
  have hhas := hmi.has
  clear hmi hob
  have hK2 : Kept [] w w1 := Kept.trans hK0 hK1 (by simp) (by simp)
  have hX1 := (hK1.block w.heap.size (lt_of_block HX.out) (by simp)).trans HX.out
  clear c0 c1 c2 c3 c4 c5 c6
  obtain ⟨⟨c0, c1, c2, c3, c4, c5, c6⟩, _⟩ := seven hX1
  clear hX1
  have hKSD : KS D := fun x hx => HKS.out x ((hhas x).1 hx)
  have hfin : ∀ j, (∀ x, f0 ≤ x → x < f0 + j → hasN D pre x) → j ≤ keys.length := fun j h => pigk keys pre f0 j fun x h1 h2 => (hhas _).1 (h x h1 h2)
  have hcall := newid pre hp f0 keys.length hf (by omega) b keys.length N D w1 hown hKSD (ht.kept hK2 hN (by simp)) (Nat.le_trans hN hK2.size) hfin
  have HC := Lib.hid hcall; have HH := Lib.hid hhas
  clear hcall hhas hKSD hfin hown
  go_wp2_with fail
  refine HC.out.mono ?_
  rintro e w2 ⟨hK3, n, rfl, hf1, hf2, hf3⟩
  have hK4 : Kept [] w w2 := Kept.trans hK2 hK3 (by simp) (by simp)
  have hfk : FirstK keys pre f0 n := ⟨hf1, fun x h1 h2 => (HH.out _).1 (hf2 x h1 h2), fun h => hf3 ((HH.out _).2 h)⟩
  have HF := Lib.hid hfk; clear hfk hf1 hf2 hf3
  go_wp2_with fail
  go_ret2
  exact ⟨hK4, n, rfl, HF.out⟩
end Go.Proofs.YtfkecmlmnhbmoaaGreatDoor
namespace Go.Proofs.YtfkecmlmnhbmoaaGreatDoor
open Go.RowKit Go.Maps
def L3E (w : World) (e : Ending) (w' : World) : Prop := e = .returned (.bool true) ∧ Kept [] w w'
theorem NFree.nz : ∀ {f f' : F}, NFree f → Cv f f' → AllN NZ f'
  | .nil, .nil, _, _ => trivial
  | .cons _ _ _ _ _ _ _ _, .cons _ _ _ _ _ _ _ _, ⟨a, _, c⟩, ⟨⟨x, _⟩, _, z⟩ => ⟨fun h => a.1 (x.2 h), NFree.nz c z⟩
  | .cons _ _ _ _ _ _ _ _, .nil, _, h => h.elim
  | .nil, .cons _ _ _ _ _ _ _ _, _, h => h.elim
def T13 (n : Nat) (W wr : World) (V : Nat) (c : Obj) (e : Ending) (w' : World) : Prop := e = .returned (.string (txtOf n)) ∧ Kept [] wr w' ∧ w'.heap[V]? = some c ∧ Kept [] W w'
def E12 (b : Bool) (W wr : World) (e : Ending) (w' : World) : Prop := (Kept [] wr w' ∧ Kept [] W w') ∧ ∃ (k i g : Int) (r : Nat) (s : ByteArray) (a5 : Option Addr) (n5 c5 : Nat) (a6 : Option Addr) (n6 c6 : Nat), e = .returned (.tuple #[.agg #[.int .i64 k, .int .i64 i, .int .i64 g, .float .f64 r, .string s, .slice a5 n5 c5, .slice a6 n6 c6], .bool b])
set_option maxRecDepth 100000 in
set_option maxHeartbeats 8000000 in
theorem law3 (k i g : Int) (r : Nat) (s : ByteArray) (keys : List ByteArray) (kids : F) (N : Nat) (ka : Option Addr) (kc : Nat) (a : Option Addr) (cap : Nat) (p : ByteArray) (f : Int) (w : World) (hn : Node (Lt N) w k i g r s keys kids ka kc a cap) (ht : Tb N w) (hN : N ≤ w.heap.size) (hp : p.size ≤ 140737488351232) (hf : I64 f) :
    Calls Tryz.prog 3 #[.agg #[.int .i64 k, .int .i64 i, .int .i64 g, .float .f64 r, .string s, .slice ka keys.length kc, .slice a kids.len cap], .string p, .int .i64 f] w (L3E w) := by
  obtain ⟨bb, hFO⟩ := fromObjF N w ht hN k i g r s keys kids
  have hNF := nfF N w ht hN k i g r s keys kids bb hFO
  have HFO := Lib.hid hFO; have HNF := Lib.hid hNF; clear hFO hNF
  obtain ⟨f1, f2⟩ := hf
  obtain ⟨w0, hw0⟩ : ∃ w0, w0 = w.alloc (.cells #[.int .i64 k, .int .i64 i, .int .i64 g, .float .f64 r, .string s, .slice ka keys.length kc, .slice a kids.len cap] 26) := ⟨_, rfl⟩
  have hK0 : Kept [] w w0 := by rw [hw0]; exact (Kept.refl [] w).alloc _
  have hX : w0.heap[w.heap.size]? = some (.cells #[.int .i64 k, .int .i64 i, .int .i64 g, .float .f64 r, .string s, .slice ka keys.length kc, .slice a kids.len cap] 26 (0, 0)) := by rw [hw0]; exact heap_at rfl
  obtain ⟨⟨c0, c1, c2, c3, c4, c5, c6⟩, _⟩ := seven hX
  have hk1 : keys.length ≤ 140737488351232 := by have := hn.keys.2.1; omega
  have hk2 : kids.len ≤ 140737488351232 := by have := hn.kids.2.1; omega
  have HN := Lib.hid hn; have HT := Lib.hid ht; have HX := Lib.hid hX; clear hn ht hX
  go_enter Tryz.func3, Tryz.ntmps3
  go_upto_region 1 with fail
  rw [← hw0]
  clear hw0
  go_wp2_with fail
  refine (zfits1 k i g r s keys kids N ka kc a cap w0 (HN.out.kept hK0 (ltk hN (by simp))) (Nat.le_trans hN hK0.size)).mono ?_
  rintro e w1 ⟨⟨b1, rfl, _⟩, hK1⟩
  have hK2 : Kept [] w w1 := Kept.trans hK0 hK1 (by simp) (by simp)
  cases b1
  case' false =>
    go_wp2_with fail
    go_ret
    exact ⟨rfl, hK2⟩
  by_cases hp2 : p.size ≤ 2147483647
  case' neg =>
    go_wp2_with fail
    go_ret
    exact ⟨rfl, hK2⟩
  have hX1 := (hK1.block w.heap.size (lt_of_block HX.out) (by simp)).trans HX.out
  clear c0 c1 c2 c3 c4 c5 c6
  obtain ⟨⟨c0, c1, c2, c3, c4, c5, c6⟩, _⟩ := seven hX1
  have HX1 := Lib.hid hX1; clear hX1
  by_cases hk8 : k = 8
  case' neg =>
    have zk : (k != 8) = true := bne_iff_ne.2 hk8
    clear hk8
    go_wp2_with fail
    go_ret
    exact ⟨rfl, hK2⟩
  subst hk8
  go_wp2_with fail
  refine (HNF.out ka kc a cap w1 hK2 (HN.out.kept hK2 (ltk hN (by simp)))).mono ?_
  rintro e w2 ⟨hK3, b2, rfl, hb2⟩
  have hK4 : Kept [] w w2 := Kept.trans hK2 hK3 (by simp) (by simp)
  have hX2 := (hK3.block w.heap.size (lt_of_block HX1.out) (by simp)).trans HX1.out
  clear c0 c1 c2 c3 c4 c5 c6
  obtain ⟨⟨c0, c1, c2, c3, c4, c5, c6⟩, _⟩ := seven hX2
  have HX2 := Lib.hid hX2; have HB := Lib.hid hb2; clear hX2 hb2
  cases b2
  case' false =>
    go_wp2_with fail
    go_ret
    exact ⟨rfl, hK4⟩
  obtain ⟨⟨⟨⟨_, hks⟩, hnf⟩, hg1, hg⟩, hbb⟩ := HB.out rfl
  have HBB := Lib.hid hbb; have HKS := Lib.hid hks; have HNFR := Lib.hid hnf; have HG1 := Lib.hid hg1; have HG := Lib.hid hg; clear hbb hks hnf hg1 hg HB
  go_wp2_with fail
  refine (simplew p w2 (by omega)).mono ?_
  rintro e w9 ⟨⟨b3, rfl, _⟩, rfl⟩
  cases b3
  case' false =>
    go_wp2_with fail
    go_ret
    exact ⟨rfl, hK4⟩
  by_cases hf0 : 0 ≤ f
  case' neg =>
    go_wp2_with fail
    go_ret
    exact ⟨rfl, hK4⟩
  by_cases hf1 : f ≤ 1000
  case' neg =>
    go_wp2_with fail
    go_ret
    exact ⟨rfl, hK4⟩
  obtain ⟨f0, rfl⟩ : ∃ m : Nat, f = m := ⟨f.toNat, by omega⟩
  go_wp2_with fail
  refine (HFO.out ka kc a cap w2 hK4 (HN.out.kept hK4 (ltk hN (by simp)))).mono ?_
  rintro e w3 ⟨⟨hK5, k3, i3, g3, r3, s3, ka3, nk3, kc3, a3, nd3, cap3, b3, rfl, hb3⟩, v9, hv9⟩
  obtain rfl : b3 = bb := flag_eq hv9
  obtain rfl : b3 = true := HBB.out
  obtain ⟨_, _, keys3, kids3, rfl, rfl, hnode3, ⟨hcv0, hcv8⟩, hcv⟩ := hb3.1 rfl
  obtain rfl : keys3 = keys := hcv8 rfl
  have hK6 : Kept [] w w3 := Kept.trans hK4 hK5 (by simp) (by simp)
  have hX3 := (hK5.block w.heap.size (lt_of_block HX2.out) (by simp)).trans HX2.out
  clear c0 c1 c2 c3 c4 c5 c6 hv9 hb3 hcv0 hcv8
  obtain ⟨⟨c0, c1, c2, c3, c4, c5, c6⟩, _⟩ := seven hX3
  have HX3 := Lib.hid hX3; have HN3 := Lib.hid hnode3; have HCV := Lib.hid hcv; clear hX3 hnode3 hcv
  obtain ⟨w4, hw4⟩ : ∃ w4, w4 = w3.alloc (.cells #[.int .i64 k3, .int .i64 i3, .int .i64 g3, .float .f64 r3, .string s3, .slice ka3 keys3.length kc3, .slice a3 kids3.len cap3] 31) := ⟨_, rfl⟩
  have hK7 : Kept [] w3 w4 := by rw [hw4]; exact (Kept.refl [] w3).alloc _
  have hV4 : w4.heap[w3.heap.size]? = some (.cells #[.int .i64 k3, .int .i64 i3, .int .i64 g3, .float .f64 r3, .string s3, .slice ka3 keys3.length kc3, .slice a3 kids3.len cap3] 31 (0, 0)) := by rw [hw4]; exact heap_at rfl
  have HV4 := Lib.hid hV4; clear hV4
  go_wp2_with fail
  rw [← hw4]
  clear hw4
  have hn4 : Node (Lt w3.heap.size) w4 k3 i3 g3 r3 s3 keys3 kids3 ka3 kc3 a3 cap3 := (HN3.out.mono (Q := Lt w3.heap.size) fun b hb => by
    rcases hb with h | ⟨_, h⟩
    · exact Nat.lt_of_lt_of_le h (Nat.le_trans hN hK6.size)
    · exact h).kept hK7 (ltk (Nat.le_refl _) (by simp))
  have HN4 := Lib.hid hn4; clear hn4
  refine (modest k3 i3 g3 r3 s3 keys3 kids3 w3.heap.size ka3 kc3 a3 cap3 w4 HN4.out hK7.size).mono ?_
  rintro e w5 ⟨hK8, b4, rfl, hb4⟩
  have hK9 : Kept [] w w5 := Kept.trans hK6 (Kept.trans (Z := []) hK7 hK8 (by simp) (by simp)) (by simp) (by simp)
  have HB4 := Lib.hid hb4; clear hb4
  cases b4
  case' false =>
    go_wp2_with fail
    go_ret
    exact ⟨rfl, hK9⟩
  have h5000 : kids3.size ≤ 5000 := HB4.out rfl
  have hlk5 : keys3.length ≤ 5000 := by
    have h1 := HG1.out.len rfl
    have h2 := HCV.out.len
    have h3 := F.len_size kids3
    omega
  have hV5 := (hK8.block w3.heap.size (lt_of_block HV4.out) (by simp)).trans HV4.out
  have hN5 := HN4.out.kept hK8 (ltk hK7.size (by simp))
  have hs5 : w3.heap.size ≤ w5.heap.size := Nat.le_trans hK7.size hK8.size
  have hlen3 : keys3.length = kids3.len := by have h1 := HG1.out.len rfl; have h2 := HCV.out.len; omega
  have HV5 := Lib.hid hV5; have HN5 := Lib.hid hN5; have HLE := Lib.hid hlen3; have HNZ := Lib.hid (HNFR.out.nz HCV.out)
  clear hV5 hN5 hlen3 h5000 HB4
  clear c0 c1 c2 c3 c4 c5 c6
  go_wp2_with fail
  go_loopw [9, 10, 11] (fun v9 _ _ wr => ∃ n : Nat, v9 = .int .i64 n ∧ f0 ≤ n ∧ n ≤ 6000 ∧ (∀ x, f0 ≤ x → x < n → p ++ txtOf x ∈ keys3) ∧ Kept [] w5 wr) (fun v9 _ _ _ => 6000 - (intOf v9).toNat)
  case atStart => exact ⟨f0, rfl, Nat.le_refl _, by omega, fun x h1 h2 => by omega, Kept.refl _ _⟩
  case round =>
    obtain ⟨n, rfl, hfn, hn6, hall, hK⟩ := hrel
    have hcnt : n - f0 ≤ keys3.length := pigk keys3 p f0 (n - f0) fun x h1 h2 => hall x h1 (by omega)
    have HALL := Lib.hid hall; clear hall
    have hKw : Kept [] w wr := Kept.trans hK9 hK (by simp) (by simp)
    have hVr := (hK.block w3.heap.size (lt_of_block HV5.out) (by simp)).trans HV5.out
    obtain ⟨⟨c0, c1, c2, c3, c4, c5, c6⟩, _⟩ := seven hVr
    have hVlt : w3.heap.size < wr.heap.size := lt_of_block hVr
    have hVne : ¬ w3.heap.size = wr.heap.size := by omega
    have HVR := Lib.hid hVr; clear hVr
    have htx : ∀ W, Kept [] wr W → Calls Tryz.prog 13 #[.int .i64 n] W (T13 n W wr w3.heap.size (.cells #[.int .i64 k3, .int .i64 i3, .int .i64 g3, .float .f64 r3, .string s3, .slice ka3 keys3.length kc3, .slice a3 kids3.len cap3] 31 (0, 0))) := fun W hW => by
      refine (textw n N W (by omega) (HT.out.kept (Kept.trans (Z := []) hKw hW (by simp) (by simp)) hN (by simp))).mono ?_
      rintro e w' ⟨he, hk⟩
      have hk' : Kept [] wr w' := Kept.trans hW hk (by simp) (by simp)
      exact ⟨he, hk', (hk'.block _ (lt_of_block HVR.out) (by simp)).trans HVR.out, hk⟩
    obtain ⟨bm, hbm⟩ : ∃ bm : Bool, (bm = true ↔ p ++ txtOf n ∈ keys3) := by
      by_cases h : p ++ txtOf n ∈ keys3
      · exact ⟨true, by simp [h]⟩
      · exact ⟨false, by simp [h]⟩
    have hen : ∀ W, Kept [] wr W → Calls Tryz.prog 12 #[.agg #[.int .i64 k3, .int .i64 i3, .int .i64 g3, .float .f64 r3, .string s3, .slice ka3 keys3.length kc3, .slice a3 kids3.len cap3], .string (p ++ txtOf n)] W (E12 bm W wr) := fun W hW => by
      refine (entry (p ++ txtOf n) k3 i3 g3 r3 s3 keys3 kids3 w3.heap.size ka3 kc3 a3 cap3 W ((HN5.out.kept hK (ltk hs5 (by simp))).kept hW (ltk (Nat.le_trans hs5 hK.size) (by simp))) (Nat.le_trans (Nat.le_trans hs5 hK.size) hW.size) HLE.out HNZ.out).mono ?_
      rintro e w' ⟨hk, k', i', g', r', s', a5, n5, c5, a6, n6, c6, b, rfl, hb⟩
      obtain rfl : b = bm := by cases b <;> cases bm <;> simp_all
      exact ⟨⟨Kept.trans hW hk (by simp) (by simp), hk⟩, k', i', g', r', s', a5, n5, c5, a6, n6, c6, rfl⟩
    have htl := txt_len n (by omega)
    have HTX := Lib.hid htx; have HEN := Lib.hid hen; have HBM := Lib.hid hbm; clear htx hen hbm
    go_upto_region 9 with fail
    go_cut [9, 11] from 52 to 64 (fun s9 s11 wx => s9 = .int .i64 n ∧ s11 = .bool bm ∧ Kept [] wr wx)
    case first =>
      go_wp2_with fail
      go_region_with (first
        | (go_at_call 13
           refine (HTX.out _ ?_).mono ?_
           (repeat (first | with_reducible exact Kept.refl _ _ | with_reducible refine Kept.drew ?_ | with_reducible refine Kept.drewN ?_ _ | with_reducible refine Kept.alloc ?_ _))
           rintro e w6 ⟨rfl, hK6x, hV6, hKW6⟩
           obtain ⟨⟨g0, g1, g2, g3', g4, g5, g6⟩, _⟩ := seven hV6
           clear hV6
           have hs6 := hK6x.size
           have hVlt6 : w3.heap.size < w6.heap.size := by omega
           have hVne6 : ¬ w3.heap.size = w6.heap.size := by omega
           try (have hA6 := (hKW6.block wr.heap.size (by simp) (by simp)).trans (heap_at (by simp)); obtain ⟨⟨x0, x1, x2, x3, x4, x5, x6⟩, y0, y1, y2, y3, y4, y5, y6⟩ := seven hA6; have HA6 := Lib.hid hA6; clear hA6)
           clear hKW6)
        | (go_at_call 12
           refine (HEN.out _ ?_).mono ?_
           (repeat (first | with_reducible exact hK6x | with_reducible refine Kept.drew ?_ | with_reducible refine Kept.drewN ?_ _ | with_reducible refine Kept.alloc ?_ _))
           rintro e w7 ⟨⟨hK7x, hKW7⟩, k7, i7, g7, r7, s7, a57, n57, c57, a67, n67, c67, rfl⟩
           try (have hA7 := (hKW7.block wr.heap.size (lt_of_block HA6.out) (by simp)).trans HA6.out; obtain ⟨⟨x0', x1', x2', x3', x4', x5', x6'⟩, y0', y1', y2', y3', y4', y5', y6'⟩ := seven hA7; clear hA7)
           try (have hA7 := (hKW7.block w6.heap.size (by simp) (by simp)).trans (heap_at (by simp)); obtain ⟨⟨x0', x1', x2', x3', x4', x5', x6'⟩, y0', y1', y2', y3', y4', y5', y6'⟩ := seven hA7; clear hA7)
           clear hKW7))
      all_goals go_wp2_with fail
      all_goals go_meet
      all_goals exact ⟨rfl, rfl, by repeat (first | with_reducible exact hK7x | with_reducible refine Kept.drew ?_ | with_reducible refine Kept.drewN ?_ _ | with_reducible refine Kept.alloc ?_ _ | with_reducible refine Kept.setCell ?_ (.inl (by first | exact Nat.le_refl _ | omega)) _)⟩
    case rest =>
      obtain ⟨rfl, rfl, hKc⟩ := hcut
      have hK5c : Kept [] w5 wc := Kept.trans hK hKc (by simp) (by simp)
      have hKwc : Kept [] w wc := Kept.trans hKw hKc (by simp) (by simp)
      clear c0 c1 c2 c3 c4 c5 c6
      cases bm
      · have hno : p ++ txtOf n ∉ keys3 := fun h => by have := HBM.out.2 h; cases this
        have hfk : FirstK keys3 p f0 n := ⟨hfn, HALL.out, hno⟩
        have HFK := Lib.hid hfk; clear hfk hno
        have hXc := ((Kept.trans (Z := []) (Kept.trans (Z := []) hK7 hK8 (by simp) (by simp)) hK5c (by simp) (by simp)).block w.heap.size (lt_of_block HX3.out) (by simp)).trans HX3.out
        obtain ⟨⟨c0, c1, c2, c3, c4, c5, c6⟩, _⟩ := seven hXc
        clear hXc
        have hfresh := freshkey i g r s keys3 kids N ka kc a cap p f0 wc (HN.out.kept hKwc (ltk hN (by simp))) (HT.out.kept hKwc hN (by simp)) (Nat.le_trans hN hKwc.size) HG1.out HG.out HKS.out hp2 (by omega) hlk5
        have HFR := Lib.hid hfresh; clear hfresh
        go_wp2_with fail
        refine HFR.out.mono ?_
        rintro e w8 ⟨hK10, m, rfl, hm⟩
        obtain rfl : m = n := hm.same HFK.out
        have hKw8 : Kept [] w w8 := Kept.trans hKwc hK10 (by simp) (by simp)
        have htx8 := textw m N w8 (by omega) (HT.out.kept hKw8 hN (by simp))
        have HTX8 := Lib.hid htx8; clear htx8 hm
        go_wp2_with fail
        refine HTX8.out.mono ?_
        rintro e w9 ⟨rfl, hK11⟩
        have hzz := beq_of (rfl : p ++ txtOf m = p ++ txtOf m)
        go_wp2_with fail
        go_ret
        exact ⟨rfl, Kept.trans hKw8 hK11 (by simp) (by simp)⟩
      · have hyes : p ++ txtOf n ∈ keys3 := HBM.out.1 rfl
        have hall2 : ∀ x, f0 ≤ x → x < n + 1 → p ++ txtOf x ∈ keys3 := fun x h1 h2 => by
          by_cases e : x = n
          · subst e; exact hyes
          · exact HALL.out x h1 (by omega)
        have hcnt2 : n + 1 - f0 ≤ keys3.length := pigk keys3 p f0 (n + 1 - f0) fun x h1 h2 => hall2 x h1 (by omega)
        have HA2 := Lib.hid hall2; clear hall2 hyes
        go_wp2_with fail
        exact ⟨⟨n + 1, by go_num, by omega, by omega, HA2.out, hK5c⟩, by simp [intOf]; omega⟩
end Go.Proofs.YtfkecmlmnhbmoaaGreatDoor
