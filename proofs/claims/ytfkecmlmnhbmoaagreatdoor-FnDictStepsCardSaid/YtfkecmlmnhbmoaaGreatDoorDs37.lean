import Derived.Test.YtfkecmlmnhbmoaaGreatDoorDs36
import Derived.Test.YtfkecmlmnhbmoaaGreatDoorDs30
import Derived.Test.YtfkecmlmnhbmoaaGreatDoorDs33
namespace Go.Proofs.YtfkecmlmnhbmoaaGreatDoor
open Go.RowKit Go.Maps
/-- The fields that a dictionary does not use. -/
structure Z4 (i g : Int) (r : Nat) (s : ByteArray) : Prop where
  i : i = 0
  g : g = 0
  r : feq r 0
  s : s = ⟨#[]⟩
/-- What Done hands back. -/
def DoE (N : Bd) (d : Di) (op : Int) (key : ByteArray) (y : Nd) (w : World) (e : Ending) (w' : World) : Prop := Kept [] w w' ∧
  ∃ (i g : Int) (r : Nat) (s : ByteArray) (d' : Di) (ka : Option Addr) (kc : Nat) (a : Option Addr) (cap : Nat) (told : Bool) (v : Nd) (kb : Option Addr) (kd : Nat) (ab : Option Addr) (capb : Nat) (is : Bool),
    e = .returned (.tuple #[.agg #[.int .i64 8, .int .i64 i, .int .i64 g, .float .f64 r, .string s, .slice ka d'.keys.length kc, .slice a d'.kids.len cap], .bool told, .agg #[.int .i64 v.k, .int .i64 v.i, .int .i64 v.g, .float .f64 v.r, .string v.s, .slice kb v.keys.length kd, .slice ab v.kids.len capb], .bool is]) ∧
    (is = true → Z4 i g r s ∧ Node (FrB N w.heap.size w'.heap.size) w' 8 i g r s d'.keys d'.kids ka kc a cap ∧ Node (FrB N w.heap.size w'.heap.size) w' v.k v.i v.g v.r v.s v.keys v.kids kb kd ab capb ∧ StepR d op key y d' told v)
theorem DoE.no {N : Bd} {d : Di} {op : Int} {key : ByteArray} {y : Nd} {w w' : World} (hK : Kept [] w w') {i g : Int} {r : Nat} {s : ByteArray} {d' : Di} {ka : Option Addr} {kc : Nat} {a : Option Addr} {cap : Nat} {told : Bool} {v : Nd} {kb : Option Addr} {kd : Nat} {ab : Option Addr} {capb : Nat} :
    DoE N d op key y w (.returned (.tuple #[.agg #[.int .i64 8, .int .i64 i, .int .i64 g, .float .f64 r, .string s, .slice ka d'.keys.length kc, .slice a d'.kids.len cap], .bool told, .agg #[.int .i64 v.k, .int .i64 v.i, .int .i64 v.g, .float .f64 v.r, .string v.s, .slice kb v.keys.length kd, .slice ab v.kids.len capb], .bool false])) w' :=
  ⟨hK, i, g, r, s, d', ka, kc, a, cap, told, v, kb, kd, ab, capb, false, rfl, fun h => by cases h⟩
theorem zeroNode {P : Nat → Prop} {w : World} : Node P w Nd.zero.k Nd.zero.i Nd.zero.g Nd.zero.r Nd.zero.s Nd.zero.keys Nd.zero.kids none 0 none 0 :=
  leafNode ⟨⟨by decide, by decide⟩, ⟨by decide, by decide⟩, ⟨by decide, by decide⟩, by decide, by decide⟩
/-- A node that a call has handed back, behind stores into blocks that stood ahead of it. -/
theorem fr_kept {N : Bd} {w W w2 Wf : World} {X : List Nat} (hK : Kept [] w W) (hk : Kept X w2 Wf) (hX : ∀ x ∈ X, N.n ≤ x ∧ x < W.heap.size) {k i g : Int} {r : Nat} {s : ByteArray} {keys : List ByteArray} {kids : F} {ka : Option Addr} {kc : Nat} {a : Option Addr} {cap : Nat}
    (hNs : N.n ≤ w2.heap.size) (h : Node (FrB N W.heap.size w2.heap.size) w2 k i g r s keys kids ka kc a cap) : Node (FrB N w.heap.size Wf.heap.size) Wf k i g r s keys kids ka kc a cap := by
  refine (h.kept hk fun b hb => ?_).mono fun b hb => ?_
  · rcases hb with h1 | ⟨h1, h2⟩
    · exact ⟨by omega, fun hm => by have := hX b hm; omega⟩
    · exact ⟨h2, fun hm => by have := hX b hm; omega⟩
  · have := hK.size
    have := hk.size
    rcases hb with h1 | ⟨h1, h2⟩
    · exact .inl h1
    · exact .inr ⟨by omega, by omega⟩
theorem lt_kept {N : Bd} {w Wf : World} (hK : Kept [] w Wf) (hN : N.n ≤ w.heap.size) {k i g : Int} {r : Nat} {s : ByteArray} {keys : List ByteArray} {kids : F} {ka : Option Addr} {kc : Nat} {a : Option Addr} {cap : Nat} (h : Node (LtB N) w k i g r s keys kids ka kc a cap) : Node (FrB N w.heap.size Wf.heap.size) Wf k i g r s keys kids ka kc a cap :=
  (h.kept hK (ltkB hN (by simp))).mono fun _ hb => .inl hb
theorem wrap64_i64 (n : Int) : I64 (wrap64 n) := ⟨by unfold wrap64; omega, by unfold wrap64; omega⟩
theorem wrap_is (n : Int) : IntKind.i64.wrap n = wrap64 n := by unfold wrap64; exact IntKind.wrap_i64 n
theorem set7 {w : World} {b t : Nat} {x0 x1 x2 x3 x4 x5 x6 : Value} (h : w.heap[b]? = some (.cells #[x0, x1, x2, x3, x4, x5, x6] t (0, 0))) (u0 u1 u2 u3 u4 u5 u6 : Value) :
    (((((((w.setCell ⟨b, 0, none⟩ u0).setCell ⟨b, 1, none⟩ u1).setCell ⟨b, 2, none⟩ u2).setCell ⟨b, 3, none⟩ u3).setCell ⟨b, 4, none⟩ u4).setCell ⟨b, 5, none⟩ u5).setCell ⟨b, 6, none⟩ u6).heap[b]? = some (.cells #[u0, u1, u2, u3, u4, u5, u6] t (0, 0)) := by
  simp [World.setCell, Array.getElem?_modify, h]
end Go.Proofs.YtfkecmlmnhbmoaaGreatDoor
namespace Go.Proofs.YtfkecmlmnhbmoaaGreatDoor
open Go.RowKit Go.Maps
theorem ObR.of {P : Nat → Prop} {w : World} : ∀ (f : F) (R : Nat → Value → Prop), (∀ j n, f.nd j = some n → ∃ v, R j v ∧ ObN P w n v) → ∃ ys, ObR P w f ys ∧ ∀ j v, ys[j]? = some v → R j v
  | .nil, _, _ => ⟨[], rfl, by simp⟩
  | .cons k i g r s keys kids rest, R, h => by
    obtain ⟨v, hv, ho⟩ := h 0 ⟨k, i, g, r, s, keys, kids⟩ rfl
    obtain ⟨ys, h1, h2⟩ := ObR.of rest (fun j => R (j + 1)) fun j n hn => h (j + 1) n hn
    refine ⟨v :: ys, ⟨v, ys, rfl, ho, h1⟩, fun j u hu => ?_⟩
    cases j with
    | zero => simp at hu; subst hu; exact hv
    | succ j => exact h2 j u (by simpa using hu)
theorem Good.of_nd : ∀ (f : F), (∀ j n, f.nd j = some n → OkN n) → Good f ∧ FitF f
  | .nil, _ => ⟨trivial, trivial⟩
  | .cons k i g r s keys kids rest, h => by
    have h0 : OkN ⟨k, i, g, r, s, keys, kids⟩ := h 0 ⟨k, i, g, r, s, keys, kids⟩ rfl
    obtain ⟨h1, h2⟩ := Good.of_nd rest fun j n hn => h (j + 1) n hn
    exact ⟨⟨h0.good1, h0.good, h1⟩, ⟨⟨h0.fld, h0.ks⟩, h0.fit, h2⟩⟩
theorem keyGe_of {a b : ByteArray} (h : a.data.toList < b.data.toList) : keyGe a b = false := by
  unfold keyGe; rw [less_of h]; rfl
/-- A dictionary of its own, as the conversions want it. -/
theorem DiOk.ok1 {d : Di} (h : DiOk d) : Ok1 8 0 0 0 ⟨#[]⟩ d.keys d.kids := by
  obtain ⟨hg, hf⟩ := Good.of_nd d.kids fun j n hn => (h.ok j n hn).ok
  refine ⟨⟨⟨.inl rfl, .inl rfl, .inl (by unfold fne; rw [show FloatKind.f64.format.order 0 0 = some .eq from feq00]; rfl), .inl (by rw [ByteArray.toList_eq]; rfl), .inr rfl, .inr (.inr rfl)⟩, by decide, by decide, (fun h => by cases h), (fun h => by cases h), fun _ => h.len, fun _ j hj => keyGe_of (List.pairwise_iff_getElem.1 h.asc j (j + 1) (by omega) hj (by omega))⟩, hg, ⟨⟨by decide, by decide⟩, ⟨by decide, by decide⟩, ⟨by decide, by decide⟩, by decide, by decide⟩, fun x hx => ?_, hf⟩
  have := (h.simp x hx).hi
  omega
/-- A map stands for a dictionary: as the conversions want it. -/
theorem RepM.ob {R : Nat → Prop} {H B bd : Nat} {w : World} {d : Di} (h : RepM R H B bd w d) (hd : DiOk d) (hlb : d.keys.length ≤ 1000000000000) : Ob1 (fun b => b = B ∨ FrR R H w.heap.size b) w 8 0 0 0 ⟨#[]⟩ d.keys d.kids (.iface 61 (.map (some B))) := by
  obtain ⟨n, D, h1, _, h3, h4⟩ := h
  obtain ⟨ys, hy, hv⟩ := ObR.of (P := fun b => b = B ∨ FrR R H w.heap.size b) (w := w) d.kids (fun j v => ∀ s, d.keys[j]? = some s → D.atKey (kl s) (.held .nilIface) = .held v) fun j n hn => by
    have hj : j < d.keys.length := by rw [hd.len]; exact F.nd_lt hn
    obtain ⟨v, e1, e2⟩ := h4 d.keys[j] n ⟨j, List.getElem?_eq_getElem hj, hn⟩
    exact ⟨v, fun s hs => by rw [List.getElem?_eq_getElem hj] at hs; cases hs; exact e1, e2.mono fun b hb => .inr hb⟩
  exact .inr (.inr ⟨rfl, B, n, D, ys, rfl, .inl rfl, by omega, h1, ⟨by rw [hy.len, hd.len], h3, fun j s v hs hj => hv j v hj s hs⟩, hy⟩)
end Go.Proofs.YtfkecmlmnhbmoaaGreatDoor
namespace Go.Proofs.YtfkecmlmnhbmoaaGreatDoor
open Go.RowKit Go.Maps
/-- What object makes of a dictionary: a map of its own, whose values lie behind it. -/
def ObD (d : Di) (w : World) (e : Ending) (w' : World) : Prop := Kept [] w w' ∧ ∃ b, e = .returned (.tuple #[.iface 61 (.map (some b)), .bool true]) ∧ w.heap.size ≤ b ∧ b < w'.heap.size ∧ RepM (fun _ => False) (b + 1) b d.keys.length w' d
theorem RepM.of {b : Nat} {w : World} {d : Di} {D : DataW Value} {ys : List Value} (_hd : DiOk d) (hown : w.ownsMap Tryz.prog 9 RV b d.keys.length D) (hm : MapIs D d.keys ys) (ho : ObR (Fr 0 (b + 1) w.heap.size) w d.kids ys) : RepM (fun _ => False) (b + 1) b d.keys.length w d :=
  ⟨_, D, hown, Nat.le_refl _, hm.has, fun s n hn => by
    obtain ⟨j, hj, hk⟩ := hn
    obtain ⟨v, hv, h1⟩ := ho.at (F.nd_drop hk)
    exact ⟨v, hm.val j s v hj hv, h1.mono fun x hx => by
      rcases hx with h | ⟨h2, h3⟩
      · omega
      · exact ⟨h2, h3, fun h => h⟩⟩⟩
set_option maxRecDepth 100000 in
set_option maxHeartbeats 3000000 in
theorem ob_dict (i g : Int) (r : Nat) (s : ByteArray) (d : Di) (N : Nat) (ka : Option Addr) (kc : Nat) (a : Option Addr) (cap : Nat) (w : World) (hd : DiOk d) (hn : Node (Lt N) w 8 i g r s d.keys d.kids ka kc a cap) (hN : N ≤ w.heap.size) :
    Calls Tryz.prog 30 #[.agg #[.int .i64 8, .int .i64 i, .int .i64 g, .float .f64 r, .string s, .slice ka d.keys.length kc, .slice a d.kids.len cap]] w (ObD d w) := by
  have hg := hd.ok1.good
  obtain ⟨⟨⟨k1, k2⟩, ⟨i1, i2⟩, ⟨g1, g2⟩, r1, s1⟩, hkeys, hkids⟩ := hn
  obtain ⟨w0, hw0⟩ : ∃ w0, w0 = w.alloc (.cells #[.int .i64 8, .int .i64 i, .int .i64 g, .float .f64 r, .string s, .slice ka d.keys.length kc, .slice a d.kids.len cap] 26) := ⟨_, rfl⟩
  have hK0 : Kept [] w w0 := by rw [hw0]; exact (Kept.refl [] w).alloc _
  have hX : w0.heap[w.heap.size]? = some (.cells #[.int .i64 8, .int .i64 i, .int .i64 g, .float .f64 r, .string s, .slice ka d.keys.length kc, .slice a d.kids.len cap] 26 (0, 0)) := by rw [hw0]; exact heap_at rfl
  obtain ⟨⟨c0, c1, c2, c3, c4, c5, c6⟩, _⟩ := seven hX
  have hkeys0 := hkeys.kept hK0 (ltk hN (by simp))
  have hkids0 := hkids.kept hK0 (ltk hN (by simp))
  have hN0 : N ≤ w0.heap.size := Nat.le_trans hN hK0.size
  have HKE := Lib.hid hkeys0; have HKI := Lib.hid hkids0; have HD := Lib.hid hd; have HG := Lib.hid hg; clear hX hkeys hkids hkeys0 hkids0 hd hg
  go_enter Tryz.func30, Tryz.ntmps30
  go_upto_region 1 with fail
  rw [← hw0]
  clear hw0
  go_wp2_with fail
  refine (dictc d.keys d.kids N ka kc a cap w0 HKE.out HKI.out hN0 HD.out.len HD.out.asc HG.out (ob_all d.kids)).mono ?_
  rintro e w1 ⟨hK1, b, D, ys, rfl, hb, hown, hmi, hob⟩
  have hK2 : Kept [] w w1 := Kept.trans hK0 hK1 (by simp) (by simp)
  have hbl := hown.lt
  have hr := RepM.of HD.out hown hmi hob
  have HR := Lib.hid hr; clear hown hmi hob hr
  go_wp2_with fail
  go_ret2
  exact ⟨hK2, b, rfl, Nat.le_trans hK0.size hb, hbl, HR.out⟩
end Go.Proofs.YtfkecmlmnhbmoaaGreatDoor
namespace Go.Proofs.YtfkecmlmnhbmoaaGreatDoor
open Go.RowKit Go.Maps
set_option maxRecDepth 100000 in
set_option maxHeartbeats 8000000 in
theorem do_ins (L : List (ByteArray × Nd)) (op : Int) (key : ByteArray) (y : Nd) (i g : Int) (r : Nat) (s : ByteArray) (N : Bd) (ka : Option Addr) (kc : Nat) (a : Option Addr) (cap : Nat) (kb : Option Addr) (kd : Nat) (ab : Option Addr) (capb : Nat) (w : World) (hd : DiOk (Di.of L)) (hz : Z4 i g r s) (hn : Node (LtB N) w 8 i g r s (Di.of L).keys (Di.of L).kids ka kc a cap)
    (hy : Node (LtB N) w y.k y.i y.g y.r y.s y.keys y.kids kb kd ab capb) (hN : N.n ≤ w.heap.size) (hky : Simp key) (hyo : NdOk y) (hop : I64 op) (hlb : L.length ≤ 1000000000000) (hop1 : op = 0) (hno0 : key ∉ (Di.of L).keys) :
    Calls Tryz.prog 17 #[.agg #[.int .i64 8, .int .i64 i, .int .i64 g, .float .f64 r, .string s, .slice ka (Di.of L).keys.length kc, .slice a (Di.of L).kids.len cap], .agg #[.int .i64 op, .string key, .int .i64 y.k, .int .i64 y.i, .int .i64 y.g, .float .f64 y.r, .string y.s, .slice kb y.keys.length kd, .slice ab y.kids.len capb]] w (DoE N (Di.of L) op key y w) := by
  have HOP := Lib.hid hop1; clear hop1
  obtain ⟨⟨⟨k1, k2⟩, ⟨i1, i2⟩, ⟨g1, g2⟩, r1, s1⟩, hkeys, hkids⟩ := hn
  have hkl : (Di.of L).keys.length = L.length := by simp [Di.of]
  have hil : (Di.of L).kids.len = L.length := by simp [Di.of, F.of_len]
  obtain ⟨w0, hw0⟩ : ∃ w0, w0 = (((w.alloc (.cells #[.int .i64 8, .int .i64 i, .int .i64 g, .float .f64 r, .string s, .slice ka (Di.of L).keys.length kc, .slice a (Di.of L).kids.len cap] 26)).alloc (.cells #[.int .i64 op, .string key, .int .i64 y.k, .int .i64 y.i, .int .i64 y.g, .float .f64 y.r, .string y.s, .slice kb y.keys.length kd, .slice ab y.kids.len capb] 45)).alloc (.cells #[.int .i64 0, .int .i64 0, .int .i64 0, .float .f64 0, .string ⟨#[]⟩, .slice none 0 0, .slice none 0 0] 26)).alloc (.cells #[.int .i64 0, .int .i64 0, .int .i64 0, .float .f64 0, .string ⟨#[]⟩, .slice none 0 0, .slice none 0 0] 26) := ⟨_, rfl⟩
  have hK0 : Kept [] w w0 := by rw [hw0]; exact ((((Kept.refl [] w).alloc _).alloc _).alloc _).alloc _
  have hX : w0.heap[w.heap.size]? = some (.cells #[.int .i64 8, .int .i64 i, .int .i64 g, .float .f64 r, .string s, .slice ka (Di.of L).keys.length kc, .slice a (Di.of L).kids.len cap] 26 (0, 0)) := by rw [hw0, heap_lt (by simp; omega), heap_lt (by simp; omega), heap_lt (by simp)]; exact heap_at rfl
  have hT : w0.heap[w.heap.size + 1]? = some (.cells #[.int .i64 op, .string key, .int .i64 y.k, .int .i64 y.i, .int .i64 y.g, .float .f64 y.r, .string y.s, .slice kb y.keys.length kd, .slice ab y.kids.len capb] 45 (0, 0)) := by rw [hw0, heap_lt (by simp), heap_lt (by simp)]; exact heap_at (by simp)
  have hA : w0.heap[w.heap.size + 1 + 1]? = some (.cells #[.int .i64 0, .int .i64 0, .int .i64 0, .float .f64 0, .string ⟨#[]⟩, .slice none 0 0, .slice none 0 0] 26 (0, 0)) := by rw [hw0, heap_lt (by simp)]; exact heap_at (by simp)
  have hB : w0.heap[w.heap.size + 1 + 1 + 1]? = some (.cells #[.int .i64 0, .int .i64 0, .int .i64 0, .float .f64 0, .string ⟨#[]⟩, .slice none 0 0, .slice none 0 0] 26 (0, 0)) := by rw [hw0]; exact heap_at (by simp)
  have hkeys0 := hkeys.kept hK0 (ltkB hN (by simp))
  have hkids0 := hkids.kept hK0 (ltkB hN (by simp))
  have hfind := dictfind key 8 i g r s (Di.of L).keys (Di.of L).kids N ka kc a cap w0 ⟨⟨⟨k1, k2⟩, ⟨i1, i2⟩, ⟨g1, g2⟩, r1, s1⟩, hkeys0, hkids0⟩ (Nat.le_trans hN hK0.size)
  have hfld : Fld 8 i g r s := ⟨⟨k1, k2⟩, ⟨i1, i2⟩, ⟨g1, g2⟩, r1, s1⟩
  obtain ⟨⟨c0, c1, c2, c3, c4, c5, c6⟩, _⟩ := seven hX
  obtain ⟨t0, t1, t2, t3, t4, t5, t6, t7, t8⟩ := nine hT
  have HX := Lib.hid hX; have HT := Lib.hid hT; have HA := Lib.hid hA; have HB := Lib.hid hB; have HKE := Lib.hid hkeys; have HKI := Lib.hid hkids; have HKI0 := Lib.hid hkids0; have HY := Lib.hid hy; have HF := Lib.hid hfind; have HFL := Lib.hid hfld; have HD := Lib.hid hd; have HKY := Lib.hid hky; have HYO := Lib.hid hyo; have HZ4 := Lib.hid hz; have HKL := Lib.hid hkl; have HIL := Lib.hid hil
  clear hX hT hA hB hkeys hkids hkeys0 hkids0 hy hfind hfld hd hky hyo hz hkl hil
  go_enter Tryz.func17, Tryz.ntmps17
  go_upto_region 1 with fail
  rw [← hw0]
  clear hw0
  go_wp2_with fail
  refine HF.out.mono ?_
  rintro e w1 ⟨hK1, p, rfl, hp⟩
  have hK2 : Kept [] w w1 := Kept.trans hK0 hK1 (by simp) (by simp)
  have hXr := (hK1.block w.heap.size (lt_of_block HX.out) (by simp)).trans HX.out
  have hTr := (hK1.block (w.heap.size + 1) (lt_of_block HT.out) (by simp)).trans HT.out
  have hAr := (hK1.block (w.heap.size + 1 + 1) (lt_of_block HA.out) (by simp)).trans HA.out
  have hBr := (hK1.block (w.heap.size + 1 + 1 + 1) (lt_of_block HB.out) (by simp)).trans HB.out
  clear c0 c1 c2 c3 c4 c5 c6 t0 t1 t2 t3 t4 t5 t6 t7 t8
  rcases hp with ⟨rfl, hno⟩ | ⟨j, rfl, hat, hmin⟩
  case' inr => exact absurd (List.mem_of_getElem? hat) hno0
  obtain ⟨W, hW⟩ : ∃ W, W = w1 := ⟨_, rfl⟩
  rw [← hW] at hXr hTr hAr hBr hK2 ⊢
  have hKW := hK2
  have HXr := Lib.hid hXr; have HTr := Lib.hid hTr; have HAr := Lib.hid hAr; have HBr := Lib.hid hBr; have HNO := Lib.hid hno
  obtain ⟨⟨c0, c1, c2, c3, c4, c5, c6⟩, _⟩ := seven hXr
  obtain ⟨t0, t1, t2, t3, t4, t5, t6, t7, t8⟩ := nine hTr
  obtain ⟨⟨a0, a1, a2, a3, a4, a5, a6⟩, p0, p1, p2, p3, p4, p5, p6⟩ := seven hAr
  obtain ⟨⟨b0, b1, b2, b3, b4, b5, b6⟩, q0, q1, q2, q3, q4, q5, q6⟩ := seven hBr
  clear hno hno0 hXr hTr hAr hBr hW hK1 hK2
  have hbz := lt_of_block HBr.out
  obtain ⟨o1, o2⟩ := hop
  have hop1 := HOP.out; clear HOP
  subst hop1
  go_wp2_with fail
  refine (dictput L key y i g r s N ka kc a cap kb kd ab capb W HD.out ⟨HFL.out, HKE.out.kept hKW (ltkB hN (by simp)), HKI.out.kept hKW (ltkB hN (by simp))⟩ (HY.out.kept hKW (ltkB hN (by simp))) (Nat.le_trans hN hKW.size) HKY.out HYO.out hlb).mono ?_
  rintro e w2 ⟨hK3, d9, ka9, kc9, a9, cap9, rfl, hnode', hput⟩
  have HN := Lib.hid hnode'; have HP := Lib.hid hput; clear hnode' hput
  clear c0 c1 c2 c3 c4 c5 c6 t0 t1 t2 t3 t4 t5 t6 t7 t8 a0 a1 a2 a3 a4 a5 a6 p0 p1 p2 p3 p4 p5 p6 b0 b1 b2 b3 b4 b5 b6 q0 q1 q2 q3 q4 q5 q6
  have hX5 := (hK3.block w.heap.size (lt_of_block HXr.out) (by simp)).trans HXr.out
  have hT5 := (hK3.block (w.heap.size + 1) (lt_of_block HTr.out) (by simp)).trans HTr.out
  have hA5 := (hK3.block (w.heap.size + 1 + 1) (lt_of_block HAr.out) (by simp)).trans HAr.out
  have hB5 := (hK3.block (w.heap.size + 1 + 1 + 1) (lt_of_block HBr.out) (by simp)).trans HBr.out
  obtain ⟨⟨c0, c1, c2, c3, c4, c5, c6⟩, _⟩ := seven hX5
  obtain ⟨t0, t1, t2, t3, t4, t5, t6, t7, t8⟩ := nine hT5
  obtain ⟨⟨a0, a1, a2, a3, a4, a5, a6⟩, p0, p1, p2, p3, p4, p5, p6⟩ := seven hA5
  obtain ⟨⟨b0, b1, b2, b3, b4, b5, b6⟩, q0, q1, q2, q3, q4, q5, q6⟩ := seven hB5
  clear hX5 hT5 hA5 hB5
  go_wp2_with fail
  have hKf := kept7 (b := w.heap.size + 1 + 1 + 1) (kept7 (b := w.heap.size + 1 + 1) (Kept.refl [w.heap.size + 1 + 1, w.heap.size + 1 + 1 + 1] w2) (.inr (by simp)) (.int .i64 8) (.int .i64 0) (.int .i64 0) (.float .f64 0) (.string ⟨#[]⟩) (.slice ka9 d9.keys.length kc9) (.slice a9 d9.kids.len cap9)) (.inr (by simp)) (.int .i64 0) (.int .i64 0) (.int .i64 0) (.float .f64 0) (.string ⟨#[]⟩) (.slice none 0 0) (.slice none 0 0)
  have hKw : Kept [] w w2 := Kept.trans hKW hK3 (by simp) (by simp)
  have hKe := kept7 (b := w.heap.size + 1 + 1 + 1) (kept7 (b := w.heap.size + 1 + 1) hKw (.inl (by omega)) (.int .i64 8) (.int .i64 0) (.int .i64 0) (.float .f64 0) (.string ⟨#[]⟩) (.slice ka9 d9.keys.length kc9) (.slice a9 d9.kids.len cap9)) (.inl (by omega)) (.int .i64 0) (.int .i64 0) (.int .i64 0) (.float .f64 0) (.string ⟨#[]⟩) (.slice none 0 0) (.slice none 0 0)
  have hoff1 : ∀ n : Nat, (⟨w.heap.size + 1 + 1, 0, none⟩ : Addr).add n = ⟨w.heap.size + 1 + 1, n, none⟩ := fun n => addr0 _ _
  have hoff2 : ∀ n : Nat, (⟨w.heap.size + 1 + 1 + 1, 0, none⟩ : Addr).add n = ⟨w.heap.size + 1 + 1 + 1, n, none⟩ := fun n => addr0 _ _
  refine bodyPost_ret (v := .tuple #[.agg #[.int .i64 8, .int .i64 0, .int .i64 0, .float .f64 0, .string ⟨#[]⟩, .slice ka9 d9.keys.length kc9, .slice a9 d9.kids.len cap9], .bool true, (.agg #[.int .i64 0,.int .i64 0,.int .i64 0,.float .f64 0,.string ⟨#[]⟩,.slice none 0 0,.slice none 0 0]), .bool true]) (by simp [results, Tryz.results17, go_sem, hoff1, hoff2, a0, a1, a2, a3, a4, a5, a6, b0, b1, b2, b3, b4, b5, b6]) rfl ?_
  refine ⟨hKe, 0, 0, 0, ⟨#[]⟩, d9, ka9, kc9, a9, cap9, true, Nd.zero, none, 0, none, 0, true, rfl, fun _ => ⟨⟨rfl, rfl, feq00, rfl⟩, fr_kept hKW hKf (fun x hx => ?_) (Nat.le_trans hN hKw.size) HN.out, zeroNode, .ins rfl HNO.out HP.out⟩⟩
  simp at hx
  omega
set_option maxRecDepth 100000 in
set_option maxHeartbeats 8000000 in
theorem do_upd0 (L : List (ByteArray × Nd)) (op : Int) (key : ByteArray) (y : Nd) (i g : Int) (r : Nat) (s : ByteArray) (N : Bd) (ka : Option Addr) (kc : Nat) (a : Option Addr) (cap : Nat) (kb : Option Addr) (kd : Nat) (ab : Option Addr) (capb : Nat) (w : World) (hd : DiOk (Di.of L)) (hz : Z4 i g r s) (hn : Node (LtB N) w 8 i g r s (Di.of L).keys (Di.of L).kids ka kc a cap)
    (hy : Node (LtB N) w y.k y.i y.g y.r y.s y.keys y.kids kb kd ab capb) (hN : N.n ≤ w.heap.size) (hky : Simp key) (hyo : NdOk y) (hop : I64 op) (hlb : L.length ≤ 1000000000000) (hop1 : op = 1) (hno0 : key ∉ (Di.of L).keys) :
    Calls Tryz.prog 17 #[.agg #[.int .i64 8, .int .i64 i, .int .i64 g, .float .f64 r, .string s, .slice ka (Di.of L).keys.length kc, .slice a (Di.of L).kids.len cap], .agg #[.int .i64 op, .string key, .int .i64 y.k, .int .i64 y.i, .int .i64 y.g, .float .f64 y.r, .string y.s, .slice kb y.keys.length kd, .slice ab y.kids.len capb]] w (DoE N (Di.of L) op key y w) := by
  have HOP := Lib.hid hop1; clear hop1
  obtain ⟨⟨⟨k1, k2⟩, ⟨i1, i2⟩, ⟨g1, g2⟩, r1, s1⟩, hkeys, hkids⟩ := hn
  have hkl : (Di.of L).keys.length = L.length := by simp [Di.of]
  have hil : (Di.of L).kids.len = L.length := by simp [Di.of, F.of_len]
  obtain ⟨w0, hw0⟩ : ∃ w0, w0 = (((w.alloc (.cells #[.int .i64 8, .int .i64 i, .int .i64 g, .float .f64 r, .string s, .slice ka (Di.of L).keys.length kc, .slice a (Di.of L).kids.len cap] 26)).alloc (.cells #[.int .i64 op, .string key, .int .i64 y.k, .int .i64 y.i, .int .i64 y.g, .float .f64 y.r, .string y.s, .slice kb y.keys.length kd, .slice ab y.kids.len capb] 45)).alloc (.cells #[.int .i64 0, .int .i64 0, .int .i64 0, .float .f64 0, .string ⟨#[]⟩, .slice none 0 0, .slice none 0 0] 26)).alloc (.cells #[.int .i64 0, .int .i64 0, .int .i64 0, .float .f64 0, .string ⟨#[]⟩, .slice none 0 0, .slice none 0 0] 26) := ⟨_, rfl⟩
  have hK0 : Kept [] w w0 := by rw [hw0]; exact ((((Kept.refl [] w).alloc _).alloc _).alloc _).alloc _
  have hX : w0.heap[w.heap.size]? = some (.cells #[.int .i64 8, .int .i64 i, .int .i64 g, .float .f64 r, .string s, .slice ka (Di.of L).keys.length kc, .slice a (Di.of L).kids.len cap] 26 (0, 0)) := by rw [hw0, heap_lt (by simp; omega), heap_lt (by simp; omega), heap_lt (by simp)]; exact heap_at rfl
  have hT : w0.heap[w.heap.size + 1]? = some (.cells #[.int .i64 op, .string key, .int .i64 y.k, .int .i64 y.i, .int .i64 y.g, .float .f64 y.r, .string y.s, .slice kb y.keys.length kd, .slice ab y.kids.len capb] 45 (0, 0)) := by rw [hw0, heap_lt (by simp), heap_lt (by simp)]; exact heap_at (by simp)
  have hA : w0.heap[w.heap.size + 1 + 1]? = some (.cells #[.int .i64 0, .int .i64 0, .int .i64 0, .float .f64 0, .string ⟨#[]⟩, .slice none 0 0, .slice none 0 0] 26 (0, 0)) := by rw [hw0, heap_lt (by simp)]; exact heap_at (by simp)
  have hB : w0.heap[w.heap.size + 1 + 1 + 1]? = some (.cells #[.int .i64 0, .int .i64 0, .int .i64 0, .float .f64 0, .string ⟨#[]⟩, .slice none 0 0, .slice none 0 0] 26 (0, 0)) := by rw [hw0]; exact heap_at (by simp)
  have hkeys0 := hkeys.kept hK0 (ltkB hN (by simp))
  have hkids0 := hkids.kept hK0 (ltkB hN (by simp))
  have hfind := dictfind key 8 i g r s (Di.of L).keys (Di.of L).kids N ka kc a cap w0 ⟨⟨⟨k1, k2⟩, ⟨i1, i2⟩, ⟨g1, g2⟩, r1, s1⟩, hkeys0, hkids0⟩ (Nat.le_trans hN hK0.size)
  have hfld : Fld 8 i g r s := ⟨⟨k1, k2⟩, ⟨i1, i2⟩, ⟨g1, g2⟩, r1, s1⟩
  obtain ⟨⟨c0, c1, c2, c3, c4, c5, c6⟩, _⟩ := seven hX
  obtain ⟨t0, t1, t2, t3, t4, t5, t6, t7, t8⟩ := nine hT
  have HX := Lib.hid hX; have HT := Lib.hid hT; have HA := Lib.hid hA; have HB := Lib.hid hB; have HKE := Lib.hid hkeys; have HKI := Lib.hid hkids; have HKI0 := Lib.hid hkids0; have HY := Lib.hid hy; have HF := Lib.hid hfind; have HFL := Lib.hid hfld; have HD := Lib.hid hd; have HKY := Lib.hid hky; have HYO := Lib.hid hyo; have HZ4 := Lib.hid hz; have HKL := Lib.hid hkl; have HIL := Lib.hid hil
  clear hX hT hA hB hkeys hkids hkeys0 hkids0 hy hfind hfld hd hky hyo hz hkl hil
  go_enter Tryz.func17, Tryz.ntmps17
  go_upto_region 1 with fail
  rw [← hw0]
  clear hw0
  go_wp2_with fail
  refine HF.out.mono ?_
  rintro e w1 ⟨hK1, p, rfl, hp⟩
  have hK2 : Kept [] w w1 := Kept.trans hK0 hK1 (by simp) (by simp)
  have hXr := (hK1.block w.heap.size (lt_of_block HX.out) (by simp)).trans HX.out
  have hTr := (hK1.block (w.heap.size + 1) (lt_of_block HT.out) (by simp)).trans HT.out
  have hAr := (hK1.block (w.heap.size + 1 + 1) (lt_of_block HA.out) (by simp)).trans HA.out
  have hBr := (hK1.block (w.heap.size + 1 + 1 + 1) (lt_of_block HB.out) (by simp)).trans HB.out
  clear c0 c1 c2 c3 c4 c5 c6 t0 t1 t2 t3 t4 t5 t6 t7 t8
  rcases hp with ⟨rfl, hno⟩ | ⟨j, rfl, hat, hmin⟩
  case' inr => exact absurd (List.mem_of_getElem? hat) hno0
  obtain ⟨W, hW⟩ : ∃ W, W = w1 := ⟨_, rfl⟩
  rw [← hW] at hXr hTr hAr hBr hK2 ⊢
  have hKW := hK2
  have HXr := Lib.hid hXr; have HTr := Lib.hid hTr; have HAr := Lib.hid hAr; have HBr := Lib.hid hBr; have HNO := Lib.hid hno
  obtain ⟨⟨c0, c1, c2, c3, c4, c5, c6⟩, _⟩ := seven hXr
  obtain ⟨t0, t1, t2, t3, t4, t5, t6, t7, t8⟩ := nine hTr
  obtain ⟨⟨a0, a1, a2, a3, a4, a5, a6⟩, p0, p1, p2, p3, p4, p5, p6⟩ := seven hAr
  obtain ⟨⟨b0, b1, b2, b3, b4, b5, b6⟩, q0, q1, q2, q3, q4, q5, q6⟩ := seven hBr
  clear hno hno0 hXr hTr hAr hBr hW hK1 hK2
  have hbz := lt_of_block HBr.out
  obtain ⟨o1, o2⟩ := hop
  have hop1 := HOP.out; clear HOP
  subst hop1
  go_wp2_with fail
  refine (dictput L key y i g r s N ka kc a cap kb kd ab capb W HD.out ⟨HFL.out, HKE.out.kept hKW (ltkB hN (by simp)), HKI.out.kept hKW (ltkB hN (by simp))⟩ (HY.out.kept hKW (ltkB hN (by simp))) (Nat.le_trans hN hKW.size) HKY.out HYO.out hlb).mono ?_
  rintro e w2 ⟨hK3, d9, ka9, kc9, a9, cap9, rfl, hnode', hput⟩
  have HN := Lib.hid hnode'; have HP := Lib.hid hput; clear hnode' hput
  clear c0 c1 c2 c3 c4 c5 c6 t0 t1 t2 t3 t4 t5 t6 t7 t8 a0 a1 a2 a3 a4 a5 a6 p0 p1 p2 p3 p4 p5 p6 b0 b1 b2 b3 b4 b5 b6 q0 q1 q2 q3 q4 q5 q6
  have hX5 := (hK3.block w.heap.size (lt_of_block HXr.out) (by simp)).trans HXr.out
  have hT5 := (hK3.block (w.heap.size + 1) (lt_of_block HTr.out) (by simp)).trans HTr.out
  have hA5 := (hK3.block (w.heap.size + 1 + 1) (lt_of_block HAr.out) (by simp)).trans HAr.out
  have hB5 := (hK3.block (w.heap.size + 1 + 1 + 1) (lt_of_block HBr.out) (by simp)).trans HBr.out
  obtain ⟨⟨c0, c1, c2, c3, c4, c5, c6⟩, _⟩ := seven hX5
  obtain ⟨t0, t1, t2, t3, t4, t5, t6, t7, t8⟩ := nine hT5
  obtain ⟨⟨a0, a1, a2, a3, a4, a5, a6⟩, p0, p1, p2, p3, p4, p5, p6⟩ := seven hA5
  obtain ⟨⟨b0, b1, b2, b3, b4, b5, b6⟩, q0, q1, q2, q3, q4, q5, q6⟩ := seven hB5
  clear hX5 hT5 hA5 hB5
  go_wp2_with fail
  have hKf := kept7 (b := w.heap.size + 1 + 1 + 1) (kept7 (b := w.heap.size + 1 + 1) (Kept.refl [w.heap.size + 1 + 1, w.heap.size + 1 + 1 + 1] w2) (.inr (by simp)) (.int .i64 8) (.int .i64 0) (.int .i64 0) (.float .f64 0) (.string ⟨#[]⟩) (.slice ka9 d9.keys.length kc9) (.slice a9 d9.kids.len cap9)) (.inr (by simp)) (.int .i64 0) (.int .i64 0) (.int .i64 0) (.float .f64 0) (.string ⟨#[]⟩) (.slice none 0 0) (.slice none 0 0)
  have hKw : Kept [] w w2 := Kept.trans hKW hK3 (by simp) (by simp)
  have hKe := kept7 (b := w.heap.size + 1 + 1 + 1) (kept7 (b := w.heap.size + 1 + 1) hKw (.inl (by omega)) (.int .i64 8) (.int .i64 0) (.int .i64 0) (.float .f64 0) (.string ⟨#[]⟩) (.slice ka9 d9.keys.length kc9) (.slice a9 d9.kids.len cap9)) (.inl (by omega)) (.int .i64 0) (.int .i64 0) (.int .i64 0) (.float .f64 0) (.string ⟨#[]⟩) (.slice none 0 0) (.slice none 0 0)
  have hoff1 : ∀ n : Nat, (⟨w.heap.size + 1 + 1, 0, none⟩ : Addr).add n = ⟨w.heap.size + 1 + 1, n, none⟩ := fun n => addr0 _ _
  have hoff2 : ∀ n : Nat, (⟨w.heap.size + 1 + 1 + 1, 0, none⟩ : Addr).add n = ⟨w.heap.size + 1 + 1 + 1, n, none⟩ := fun n => addr0 _ _
  refine bodyPost_ret (v := .tuple #[.agg #[.int .i64 8, .int .i64 0, .int .i64 0, .float .f64 0, .string ⟨#[]⟩, .slice ka9 d9.keys.length kc9, .slice a9 d9.kids.len cap9], .bool true, (.agg #[.int .i64 0,.int .i64 0,.int .i64 0,.float .f64 0,.string ⟨#[]⟩,.slice none 0 0,.slice none 0 0]), .bool false]) (by simp [results, Tryz.results17, go_sem, hoff1, hoff2, a0, a1, a2, a3, a4, a5, a6, b0, b1, b2, b3, b4, b5, b6]) rfl ?_
  exact DoE.no (v := Nd.zero) hKe
set_option maxRecDepth 100000 in
set_option maxHeartbeats 8000000 in
theorem do_inc0 (L : List (ByteArray × Nd)) (op : Int) (key : ByteArray) (y : Nd) (i g : Int) (r : Nat) (s : ByteArray) (N : Bd) (ka : Option Addr) (kc : Nat) (a : Option Addr) (cap : Nat) (kb : Option Addr) (kd : Nat) (ab : Option Addr) (capb : Nat) (w : World) (hd : DiOk (Di.of L)) (hz : Z4 i g r s) (hn : Node (LtB N) w 8 i g r s (Di.of L).keys (Di.of L).kids ka kc a cap)
    (hy : Node (LtB N) w y.k y.i y.g y.r y.s y.keys y.kids kb kd ab capb) (hN : N.n ≤ w.heap.size) (hky : Simp key) (hyo : NdOk y) (hop : I64 op) (_hlb : L.length ≤ 1000000000000) (hop1 : op = 6) (hno0 : key ∉ (Di.of L).keys) :
    Calls Tryz.prog 17 #[.agg #[.int .i64 8, .int .i64 i, .int .i64 g, .float .f64 r, .string s, .slice ka (Di.of L).keys.length kc, .slice a (Di.of L).kids.len cap], .agg #[.int .i64 op, .string key, .int .i64 y.k, .int .i64 y.i, .int .i64 y.g, .float .f64 y.r, .string y.s, .slice kb y.keys.length kd, .slice ab y.kids.len capb]] w (DoE N (Di.of L) op key y w) := by
  have HOP := Lib.hid hop1; clear hop1
  obtain ⟨⟨⟨k1, k2⟩, ⟨i1, i2⟩, ⟨g1, g2⟩, r1, s1⟩, hkeys, hkids⟩ := hn
  have hkl : (Di.of L).keys.length = L.length := by simp [Di.of]
  have hil : (Di.of L).kids.len = L.length := by simp [Di.of, F.of_len]
  obtain ⟨w0, hw0⟩ : ∃ w0, w0 = (((w.alloc (.cells #[.int .i64 8, .int .i64 i, .int .i64 g, .float .f64 r, .string s, .slice ka (Di.of L).keys.length kc, .slice a (Di.of L).kids.len cap] 26)).alloc (.cells #[.int .i64 op, .string key, .int .i64 y.k, .int .i64 y.i, .int .i64 y.g, .float .f64 y.r, .string y.s, .slice kb y.keys.length kd, .slice ab y.kids.len capb] 45)).alloc (.cells #[.int .i64 0, .int .i64 0, .int .i64 0, .float .f64 0, .string ⟨#[]⟩, .slice none 0 0, .slice none 0 0] 26)).alloc (.cells #[.int .i64 0, .int .i64 0, .int .i64 0, .float .f64 0, .string ⟨#[]⟩, .slice none 0 0, .slice none 0 0] 26) := ⟨_, rfl⟩
  have hK0 : Kept [] w w0 := by rw [hw0]; exact ((((Kept.refl [] w).alloc _).alloc _).alloc _).alloc _
  have hX : w0.heap[w.heap.size]? = some (.cells #[.int .i64 8, .int .i64 i, .int .i64 g, .float .f64 r, .string s, .slice ka (Di.of L).keys.length kc, .slice a (Di.of L).kids.len cap] 26 (0, 0)) := by rw [hw0, heap_lt (by simp; omega), heap_lt (by simp; omega), heap_lt (by simp)]; exact heap_at rfl
  have hT : w0.heap[w.heap.size + 1]? = some (.cells #[.int .i64 op, .string key, .int .i64 y.k, .int .i64 y.i, .int .i64 y.g, .float .f64 y.r, .string y.s, .slice kb y.keys.length kd, .slice ab y.kids.len capb] 45 (0, 0)) := by rw [hw0, heap_lt (by simp), heap_lt (by simp)]; exact heap_at (by simp)
  have hA : w0.heap[w.heap.size + 1 + 1]? = some (.cells #[.int .i64 0, .int .i64 0, .int .i64 0, .float .f64 0, .string ⟨#[]⟩, .slice none 0 0, .slice none 0 0] 26 (0, 0)) := by rw [hw0, heap_lt (by simp)]; exact heap_at (by simp)
  have hB : w0.heap[w.heap.size + 1 + 1 + 1]? = some (.cells #[.int .i64 0, .int .i64 0, .int .i64 0, .float .f64 0, .string ⟨#[]⟩, .slice none 0 0, .slice none 0 0] 26 (0, 0)) := by rw [hw0]; exact heap_at (by simp)
  have hkeys0 := hkeys.kept hK0 (ltkB hN (by simp))
  have hkids0 := hkids.kept hK0 (ltkB hN (by simp))
  have hfind := dictfind key 8 i g r s (Di.of L).keys (Di.of L).kids N ka kc a cap w0 ⟨⟨⟨k1, k2⟩, ⟨i1, i2⟩, ⟨g1, g2⟩, r1, s1⟩, hkeys0, hkids0⟩ (Nat.le_trans hN hK0.size)
  have hfld : Fld 8 i g r s := ⟨⟨k1, k2⟩, ⟨i1, i2⟩, ⟨g1, g2⟩, r1, s1⟩
  obtain ⟨⟨c0, c1, c2, c3, c4, c5, c6⟩, _⟩ := seven hX
  obtain ⟨t0, t1, t2, t3, t4, t5, t6, t7, t8⟩ := nine hT
  have HX := Lib.hid hX; have HT := Lib.hid hT; have HA := Lib.hid hA; have HB := Lib.hid hB; have HKE := Lib.hid hkeys; have HKI := Lib.hid hkids; have HKI0 := Lib.hid hkids0; have HY := Lib.hid hy; have HF := Lib.hid hfind; have HFL := Lib.hid hfld; have HD := Lib.hid hd; have HKY := Lib.hid hky; have HYO := Lib.hid hyo; have HZ4 := Lib.hid hz; have HKL := Lib.hid hkl; have HIL := Lib.hid hil
  clear hX hT hA hB hkeys hkids hkeys0 hkids0 hy hfind hfld hd hky hyo hz hkl hil
  go_enter Tryz.func17, Tryz.ntmps17
  go_upto_region 1 with fail
  rw [← hw0]
  clear hw0
  go_wp2_with fail
  refine HF.out.mono ?_
  rintro e w1 ⟨hK1, p, rfl, hp⟩
  have hK2 : Kept [] w w1 := Kept.trans hK0 hK1 (by simp) (by simp)
  have hXr := (hK1.block w.heap.size (lt_of_block HX.out) (by simp)).trans HX.out
  have hTr := (hK1.block (w.heap.size + 1) (lt_of_block HT.out) (by simp)).trans HT.out
  have hAr := (hK1.block (w.heap.size + 1 + 1) (lt_of_block HA.out) (by simp)).trans HA.out
  have hBr := (hK1.block (w.heap.size + 1 + 1 + 1) (lt_of_block HB.out) (by simp)).trans HB.out
  clear c0 c1 c2 c3 c4 c5 c6 t0 t1 t2 t3 t4 t5 t6 t7 t8
  rcases hp with ⟨rfl, hno⟩ | ⟨j, rfl, hat, hmin⟩
  case' inr => exact absurd (List.mem_of_getElem? hat) hno0
  obtain ⟨W, hW⟩ : ∃ W, W = w1 := ⟨_, rfl⟩
  rw [← hW] at hXr hTr hAr hBr hK2 ⊢
  have hKW := hK2
  have HXr := Lib.hid hXr; have HTr := Lib.hid hTr; have HAr := Lib.hid hAr; have HBr := Lib.hid hBr; have HNO := Lib.hid hno
  obtain ⟨⟨c0, c1, c2, c3, c4, c5, c6⟩, _⟩ := seven hXr
  obtain ⟨t0, t1, t2, t3, t4, t5, t6, t7, t8⟩ := nine hTr
  obtain ⟨⟨a0, a1, a2, a3, a4, a5, a6⟩, p0, p1, p2, p3, p4, p5, p6⟩ := seven hAr
  obtain ⟨⟨b0, b1, b2, b3, b4, b5, b6⟩, q0, q1, q2, q3, q4, q5, q6⟩ := seven hBr
  clear hno hno0 hXr hTr hAr hBr hW hK1 hK2
  have hbz := lt_of_block HBr.out
  obtain ⟨o1, o2⟩ := hop
  have hop1 := HOP.out; clear HOP
  subst hop1
  go_wp2_with fail
  have hoff1 : ∀ n : Nat, (⟨w.heap.size + 1 + 1, 0, none⟩ : Addr).add n = ⟨w.heap.size + 1 + 1, n, none⟩ := fun n => addr0 _ _
  have hoff2 : ∀ n : Nat, (⟨w.heap.size + 1 + 1 + 1, 0, none⟩ : Addr).add n = ⟨w.heap.size + 1 + 1 + 1, n, none⟩ := fun n => addr0 _ _
  refine bodyPost_ret (v := .tuple #[.agg #[.int .i64 8, .int .i64 i, .int .i64 g, .float .f64 r, .string s, .slice ka (Di.of L).keys.length kc, .slice a (Di.of L).kids.len cap], .bool false, (.agg #[.int .i64 0,.int .i64 0,.int .i64 0,.float .f64 0,.string ⟨#[]⟩,.slice none 0 0,.slice none 0 0]), .bool true]) (by simp [results, Tryz.results17, go_sem, hoff1, hoff2, a0, a1, a2, a3, a4, a5, a6, b0, b1, b2, b3, b4, b5, b6]) rfl ?_
  have hKe := kept7 (b := w.heap.size + 1 + 1 + 1) (kept7 (b := w.heap.size + 1 + 1) hKW (.inl (by omega)) (.int .i64 8) (.int .i64 i) (.int .i64 g) (.float .f64 r) (.string s) (.slice ka (Di.of L).keys.length kc) (.slice a (Di.of L).kids.len cap)) (.inl (by omega)) (.int .i64 0) (.int .i64 0) (.int .i64 0) (.float .f64 0) (.string ⟨#[]⟩) (.slice none 0 0) (.slice none 0 0)
  exact ⟨hKe, i, g, r, s, Di.of L, ka, kc, a, cap, false, Nd.zero, none, 0, none, 0, true, rfl, fun _ => ⟨HZ4.out, lt_kept hKe hN ⟨HFL.out, HKE.out, HKI.out⟩, zeroNode, .incNo rfl fun v hv => absurd hv.mem HNO.out⟩⟩
set_option maxRecDepth 100000 in
set_option maxHeartbeats 8000000 in
theorem do_else0 (L : List (ByteArray × Nd)) (op : Int) (key : ByteArray) (y : Nd) (i g : Int) (r : Nat) (s : ByteArray) (N : Bd) (ka : Option Addr) (kc : Nat) (a : Option Addr) (cap : Nat) (kb : Option Addr) (kd : Nat) (ab : Option Addr) (capb : Nat) (w : World) (hd : DiOk (Di.of L)) (hz : Z4 i g r s) (hn : Node (LtB N) w 8 i g r s (Di.of L).keys (Di.of L).kids ka kc a cap)
    (hy : Node (LtB N) w y.k y.i y.g y.r y.s y.keys y.kids kb kd ab capb) (hN : N.n ≤ w.heap.size) (hky : Simp key) (hyo : NdOk y) (hop : I64 op) (_hlb : L.length ≤ 1000000000000) (hop1 : op ≠ 0 ∧ op ≠ 1 ∧ op ≠ 2 ∧ op ≠ 3 ∧ op ≠ 4 ∧ op ≠ 5 ∧ op ≠ 6) (hno0 : key ∉ (Di.of L).keys) :
    Calls Tryz.prog 17 #[.agg #[.int .i64 8, .int .i64 i, .int .i64 g, .float .f64 r, .string s, .slice ka (Di.of L).keys.length kc, .slice a (Di.of L).kids.len cap], .agg #[.int .i64 op, .string key, .int .i64 y.k, .int .i64 y.i, .int .i64 y.g, .float .f64 y.r, .string y.s, .slice kb y.keys.length kd, .slice ab y.kids.len capb]] w (DoE N (Di.of L) op key y w) := by
  have HOP := Lib.hid hop1; clear hop1
  obtain ⟨⟨⟨k1, k2⟩, ⟨i1, i2⟩, ⟨g1, g2⟩, r1, s1⟩, hkeys, hkids⟩ := hn
  have hkl : (Di.of L).keys.length = L.length := by simp [Di.of]
  have hil : (Di.of L).kids.len = L.length := by simp [Di.of, F.of_len]
  obtain ⟨w0, hw0⟩ : ∃ w0, w0 = (((w.alloc (.cells #[.int .i64 8, .int .i64 i, .int .i64 g, .float .f64 r, .string s, .slice ka (Di.of L).keys.length kc, .slice a (Di.of L).kids.len cap] 26)).alloc (.cells #[.int .i64 op, .string key, .int .i64 y.k, .int .i64 y.i, .int .i64 y.g, .float .f64 y.r, .string y.s, .slice kb y.keys.length kd, .slice ab y.kids.len capb] 45)).alloc (.cells #[.int .i64 0, .int .i64 0, .int .i64 0, .float .f64 0, .string ⟨#[]⟩, .slice none 0 0, .slice none 0 0] 26)).alloc (.cells #[.int .i64 0, .int .i64 0, .int .i64 0, .float .f64 0, .string ⟨#[]⟩, .slice none 0 0, .slice none 0 0] 26) := ⟨_, rfl⟩
  have hK0 : Kept [] w w0 := by rw [hw0]; exact ((((Kept.refl [] w).alloc _).alloc _).alloc _).alloc _
  have hX : w0.heap[w.heap.size]? = some (.cells #[.int .i64 8, .int .i64 i, .int .i64 g, .float .f64 r, .string s, .slice ka (Di.of L).keys.length kc, .slice a (Di.of L).kids.len cap] 26 (0, 0)) := by rw [hw0, heap_lt (by simp; omega), heap_lt (by simp; omega), heap_lt (by simp)]; exact heap_at rfl
  have hT : w0.heap[w.heap.size + 1]? = some (.cells #[.int .i64 op, .string key, .int .i64 y.k, .int .i64 y.i, .int .i64 y.g, .float .f64 y.r, .string y.s, .slice kb y.keys.length kd, .slice ab y.kids.len capb] 45 (0, 0)) := by rw [hw0, heap_lt (by simp), heap_lt (by simp)]; exact heap_at (by simp)
  have hA : w0.heap[w.heap.size + 1 + 1]? = some (.cells #[.int .i64 0, .int .i64 0, .int .i64 0, .float .f64 0, .string ⟨#[]⟩, .slice none 0 0, .slice none 0 0] 26 (0, 0)) := by rw [hw0, heap_lt (by simp)]; exact heap_at (by simp)
  have hB : w0.heap[w.heap.size + 1 + 1 + 1]? = some (.cells #[.int .i64 0, .int .i64 0, .int .i64 0, .float .f64 0, .string ⟨#[]⟩, .slice none 0 0, .slice none 0 0] 26 (0, 0)) := by rw [hw0]; exact heap_at (by simp)
  have hkeys0 := hkeys.kept hK0 (ltkB hN (by simp))
  have hkids0 := hkids.kept hK0 (ltkB hN (by simp))
  have hfind := dictfind key 8 i g r s (Di.of L).keys (Di.of L).kids N ka kc a cap w0 ⟨⟨⟨k1, k2⟩, ⟨i1, i2⟩, ⟨g1, g2⟩, r1, s1⟩, hkeys0, hkids0⟩ (Nat.le_trans hN hK0.size)
  have hfld : Fld 8 i g r s := ⟨⟨k1, k2⟩, ⟨i1, i2⟩, ⟨g1, g2⟩, r1, s1⟩
  obtain ⟨⟨c0, c1, c2, c3, c4, c5, c6⟩, _⟩ := seven hX
  obtain ⟨t0, t1, t2, t3, t4, t5, t6, t7, t8⟩ := nine hT
  have HX := Lib.hid hX; have HT := Lib.hid hT; have HA := Lib.hid hA; have HB := Lib.hid hB; have HKE := Lib.hid hkeys; have HKI := Lib.hid hkids; have HKI0 := Lib.hid hkids0; have HY := Lib.hid hy; have HF := Lib.hid hfind; have HFL := Lib.hid hfld; have HD := Lib.hid hd; have HKY := Lib.hid hky; have HYO := Lib.hid hyo; have HZ4 := Lib.hid hz; have HKL := Lib.hid hkl; have HIL := Lib.hid hil
  clear hX hT hA hB hkeys hkids hkeys0 hkids0 hy hfind hfld hd hky hyo hz hkl hil
  go_enter Tryz.func17, Tryz.ntmps17
  go_upto_region 1 with fail
  rw [← hw0]
  clear hw0
  go_wp2_with fail
  refine HF.out.mono ?_
  rintro e w1 ⟨hK1, p, rfl, hp⟩
  have hK2 : Kept [] w w1 := Kept.trans hK0 hK1 (by simp) (by simp)
  have hXr := (hK1.block w.heap.size (lt_of_block HX.out) (by simp)).trans HX.out
  have hTr := (hK1.block (w.heap.size + 1) (lt_of_block HT.out) (by simp)).trans HT.out
  have hAr := (hK1.block (w.heap.size + 1 + 1) (lt_of_block HA.out) (by simp)).trans HA.out
  have hBr := (hK1.block (w.heap.size + 1 + 1 + 1) (lt_of_block HB.out) (by simp)).trans HB.out
  clear c0 c1 c2 c3 c4 c5 c6 t0 t1 t2 t3 t4 t5 t6 t7 t8
  rcases hp with ⟨rfl, hno⟩ | ⟨j, rfl, hat, hmin⟩
  case' inr => exact absurd (List.mem_of_getElem? hat) hno0
  obtain ⟨W, hW⟩ : ∃ W, W = w1 := ⟨_, rfl⟩
  rw [← hW] at hXr hTr hAr hBr hK2 ⊢
  have hKW := hK2
  have HXr := Lib.hid hXr; have HTr := Lib.hid hTr; have HAr := Lib.hid hAr; have HBr := Lib.hid hBr; have HNO := Lib.hid hno
  obtain ⟨⟨c0, c1, c2, c3, c4, c5, c6⟩, _⟩ := seven hXr
  obtain ⟨t0, t1, t2, t3, t4, t5, t6, t7, t8⟩ := nine hTr
  obtain ⟨⟨a0, a1, a2, a3, a4, a5, a6⟩, p0, p1, p2, p3, p4, p5, p6⟩ := seven hAr
  obtain ⟨⟨b0, b1, b2, b3, b4, b5, b6⟩, q0, q1, q2, q3, q4, q5, q6⟩ := seven hBr
  clear hno hno0 hXr hTr hAr hBr hW hK1 hK2
  have hbz := lt_of_block HBr.out
  obtain ⟨o1, o2⟩ := hop
  have hop1 := HOP.out; clear HOP
  have z0 : (op == 0) = false := beq_eq_false_iff_ne.2 (by omega)
  have z1 : (op == 1) = false := beq_eq_false_iff_ne.2 (by omega)
  have z2 : (op == 2) = false := beq_eq_false_iff_ne.2 (by omega)
  have z3 : (op == 3) = false := beq_eq_false_iff_ne.2 (by omega)
  have z4 : (op == 4) = false := beq_eq_false_iff_ne.2 (by omega)
  have z5 : (op == 5) = false := beq_eq_false_iff_ne.2 (by omega)
  have z6 : (op == 6) = false := beq_eq_false_iff_ne.2 (by omega)
  clear hop1
  go_wp2_with fail
  have hoff1 : ∀ n : Nat, (⟨w.heap.size + 1 + 1, 0, none⟩ : Addr).add n = ⟨w.heap.size + 1 + 1, n, none⟩ := fun n => addr0 _ _
  have hoff2 : ∀ n : Nat, (⟨w.heap.size + 1 + 1 + 1, 0, none⟩ : Addr).add n = ⟨w.heap.size + 1 + 1 + 1, n, none⟩ := fun n => addr0 _ _
  refine bodyPost_ret (v := .tuple #[.agg #[.int .i64 8, .int .i64 i, .int .i64 g, .float .f64 r, .string s, .slice ka (Di.of L).keys.length kc, .slice a (Di.of L).kids.len cap], .bool false, (.agg #[.int .i64 0,.int .i64 0,.int .i64 0,.float .f64 0,.string ⟨#[]⟩,.slice none 0 0,.slice none 0 0]), .bool false]) (by simp [results, Tryz.results17, go_sem, hoff1, hoff2, a0, a1, a2, a3, a4, a5, a6, b0, b1, b2, b3, b4, b5, b6]) rfl ?_
  have hKe := kept7 (b := w.heap.size + 1 + 1 + 1) (kept7 (b := w.heap.size + 1 + 1) hKW (.inl (by omega)) (.int .i64 8) (.int .i64 i) (.int .i64 g) (.float .f64 r) (.string s) (.slice ka (Di.of L).keys.length kc) (.slice a (Di.of L).kids.len cap)) (.inl (by omega)) (.int .i64 0) (.int .i64 0) (.int .i64 0) (.float .f64 0) (.string ⟨#[]⟩) (.slice none 0 0) (.slice none 0 0)
  exact DoE.no (d' := Di.of L) (v := Nd.zero) hKe
end Go.Proofs.YtfkecmlmnhbmoaaGreatDoor
namespace Go.Proofs.YtfkecmlmnhbmoaaGreatDoor
open Go.RowKit Go.Maps
set_option maxRecDepth 100000 in
set_option maxHeartbeats 8000000 in
theorem do_look0_3 (L : List (ByteArray × Nd)) (op : Int) (key : ByteArray) (y : Nd) (i g : Int) (r : Nat) (s : ByteArray) (N : Bd) (ka : Option Addr) (kc : Nat) (a : Option Addr) (cap : Nat) (kb : Option Addr) (kd : Nat) (ab : Option Addr) (capb : Nat) (w : World) (hd : DiOk (Di.of L)) (hz : Z4 i g r s) (hn : Node (LtB N) w 8 i g r s (Di.of L).keys (Di.of L).kids ka kc a cap)
    (hy : Node (LtB N) w y.k y.i y.g y.r y.s y.keys y.kids kb kd ab capb) (hN : N.n ≤ w.heap.size) (hky : Simp key) (hyo : NdOk y) (hop : I64 op) (_hlb : L.length ≤ 1000000000000) (hop1 : op = 3) (hno0 : key ∉ (Di.of L).keys) :
    Calls Tryz.prog 17 #[.agg #[.int .i64 8, .int .i64 i, .int .i64 g, .float .f64 r, .string s, .slice ka (Di.of L).keys.length kc, .slice a (Di.of L).kids.len cap], .agg #[.int .i64 op, .string key, .int .i64 y.k, .int .i64 y.i, .int .i64 y.g, .float .f64 y.r, .string y.s, .slice kb y.keys.length kd, .slice ab y.kids.len capb]] w (DoE N (Di.of L) op key y w) := by
  have HOP := Lib.hid hop1; clear hop1
  obtain ⟨⟨⟨k1, k2⟩, ⟨i1, i2⟩, ⟨g1, g2⟩, r1, s1⟩, hkeys, hkids⟩ := hn
  have hkl : (Di.of L).keys.length = L.length := by simp [Di.of]
  have hil : (Di.of L).kids.len = L.length := by simp [Di.of, F.of_len]
  obtain ⟨w0, hw0⟩ : ∃ w0, w0 = (((w.alloc (.cells #[.int .i64 8, .int .i64 i, .int .i64 g, .float .f64 r, .string s, .slice ka (Di.of L).keys.length kc, .slice a (Di.of L).kids.len cap] 26)).alloc (.cells #[.int .i64 op, .string key, .int .i64 y.k, .int .i64 y.i, .int .i64 y.g, .float .f64 y.r, .string y.s, .slice kb y.keys.length kd, .slice ab y.kids.len capb] 45)).alloc (.cells #[.int .i64 0, .int .i64 0, .int .i64 0, .float .f64 0, .string ⟨#[]⟩, .slice none 0 0, .slice none 0 0] 26)).alloc (.cells #[.int .i64 0, .int .i64 0, .int .i64 0, .float .f64 0, .string ⟨#[]⟩, .slice none 0 0, .slice none 0 0] 26) := ⟨_, rfl⟩
  have hK0 : Kept [] w w0 := by rw [hw0]; exact ((((Kept.refl [] w).alloc _).alloc _).alloc _).alloc _
  have hX : w0.heap[w.heap.size]? = some (.cells #[.int .i64 8, .int .i64 i, .int .i64 g, .float .f64 r, .string s, .slice ka (Di.of L).keys.length kc, .slice a (Di.of L).kids.len cap] 26 (0, 0)) := by rw [hw0, heap_lt (by simp; omega), heap_lt (by simp; omega), heap_lt (by simp)]; exact heap_at rfl
  have hT : w0.heap[w.heap.size + 1]? = some (.cells #[.int .i64 op, .string key, .int .i64 y.k, .int .i64 y.i, .int .i64 y.g, .float .f64 y.r, .string y.s, .slice kb y.keys.length kd, .slice ab y.kids.len capb] 45 (0, 0)) := by rw [hw0, heap_lt (by simp), heap_lt (by simp)]; exact heap_at (by simp)
  have hA : w0.heap[w.heap.size + 1 + 1]? = some (.cells #[.int .i64 0, .int .i64 0, .int .i64 0, .float .f64 0, .string ⟨#[]⟩, .slice none 0 0, .slice none 0 0] 26 (0, 0)) := by rw [hw0, heap_lt (by simp)]; exact heap_at (by simp)
  have hB : w0.heap[w.heap.size + 1 + 1 + 1]? = some (.cells #[.int .i64 0, .int .i64 0, .int .i64 0, .float .f64 0, .string ⟨#[]⟩, .slice none 0 0, .slice none 0 0] 26 (0, 0)) := by rw [hw0]; exact heap_at (by simp)
  have hkeys0 := hkeys.kept hK0 (ltkB hN (by simp))
  have hkids0 := hkids.kept hK0 (ltkB hN (by simp))
  have hfind := dictfind key 8 i g r s (Di.of L).keys (Di.of L).kids N ka kc a cap w0 ⟨⟨⟨k1, k2⟩, ⟨i1, i2⟩, ⟨g1, g2⟩, r1, s1⟩, hkeys0, hkids0⟩ (Nat.le_trans hN hK0.size)
  have hfld : Fld 8 i g r s := ⟨⟨k1, k2⟩, ⟨i1, i2⟩, ⟨g1, g2⟩, r1, s1⟩
  obtain ⟨⟨c0, c1, c2, c3, c4, c5, c6⟩, _⟩ := seven hX
  obtain ⟨t0, t1, t2, t3, t4, t5, t6, t7, t8⟩ := nine hT
  have HX := Lib.hid hX; have HT := Lib.hid hT; have HA := Lib.hid hA; have HB := Lib.hid hB; have HKE := Lib.hid hkeys; have HKI := Lib.hid hkids; have HKI0 := Lib.hid hkids0; have HY := Lib.hid hy; have HF := Lib.hid hfind; have HFL := Lib.hid hfld; have HD := Lib.hid hd; have HKY := Lib.hid hky; have HYO := Lib.hid hyo; have HZ4 := Lib.hid hz; have HKL := Lib.hid hkl; have HIL := Lib.hid hil
  clear hX hT hA hB hkeys hkids hkeys0 hkids0 hy hfind hfld hd hky hyo hz hkl hil
  go_enter Tryz.func17, Tryz.ntmps17
  go_upto_region 1 with fail
  rw [← hw0]
  clear hw0
  go_wp2_with fail
  refine HF.out.mono ?_
  rintro e w1 ⟨hK1, p, rfl, hp⟩
  have hK2 : Kept [] w w1 := Kept.trans hK0 hK1 (by simp) (by simp)
  have hXr := (hK1.block w.heap.size (lt_of_block HX.out) (by simp)).trans HX.out
  have hTr := (hK1.block (w.heap.size + 1) (lt_of_block HT.out) (by simp)).trans HT.out
  have hAr := (hK1.block (w.heap.size + 1 + 1) (lt_of_block HA.out) (by simp)).trans HA.out
  have hBr := (hK1.block (w.heap.size + 1 + 1 + 1) (lt_of_block HB.out) (by simp)).trans HB.out
  clear c0 c1 c2 c3 c4 c5 c6 t0 t1 t2 t3 t4 t5 t6 t7 t8
  rcases hp with ⟨rfl, hno⟩ | ⟨j, rfl, hat, hmin⟩
  case' inr => exact absurd (List.mem_of_getElem? hat) hno0
  obtain ⟨W, hW⟩ : ∃ W, W = w1 := ⟨_, rfl⟩
  rw [← hW] at hXr hTr hAr hBr hK2 ⊢
  have hKW := hK2
  have HXr := Lib.hid hXr; have HTr := Lib.hid hTr; have HAr := Lib.hid hAr; have HBr := Lib.hid hBr; have HNO := Lib.hid hno
  obtain ⟨⟨c0, c1, c2, c3, c4, c5, c6⟩, _⟩ := seven hXr
  obtain ⟨t0, t1, t2, t3, t4, t5, t6, t7, t8⟩ := nine hTr
  obtain ⟨⟨a0, a1, a2, a3, a4, a5, a6⟩, p0, p1, p2, p3, p4, p5, p6⟩ := seven hAr
  obtain ⟨⟨b0, b1, b2, b3, b4, b5, b6⟩, q0, q1, q2, q3, q4, q5, q6⟩ := seven hBr
  clear hno hno0 hXr hTr hAr hBr hW hK1 hK2
  have hbz := lt_of_block HBr.out
  obtain ⟨o1, o2⟩ := hop
  have hop1 := HOP.out; clear HOP
  subst hop1
  go_wp2_with fail
  go_region
  all_goals go_wp2_with fail
  all_goals (
    have hoff1 : ∀ n : Nat, (⟨w.heap.size + 1 + 1, 0, none⟩ : Addr).add n = ⟨w.heap.size + 1 + 1, n, none⟩ := fun n => addr0 _ _
    have hoff2 : ∀ n : Nat, (⟨w.heap.size + 1 + 1 + 1, 0, none⟩ : Addr).add n = ⟨w.heap.size + 1 + 1 + 1, n, none⟩ := fun n => addr0 _ _
    refine bodyPost_ret (v := .tuple #[.agg #[.int .i64 8, .int .i64 i, .int .i64 g, .float .f64 r, .string s, .slice ka (Di.of L).keys.length kc, .slice a (Di.of L).kids.len cap], .bool false, (.agg #[.int .i64 0,.int .i64 0,.int .i64 0,.float .f64 0,.string ⟨#[]⟩,.slice none 0 0,.slice none 0 0]), .bool true]) (by simp [results, Tryz.results17, go_sem, hoff1, hoff2, a0, a1, a2, a3, a4, a5, a6, b0, b1, b2, b3, b4, b5, b6]) rfl ?_
    have hKe := kept7 (b := w.heap.size + 1 + 1 + 1) (kept7 (b := w.heap.size + 1 + 1) hKW (.inl (by omega)) (.int .i64 8) (.int .i64 i) (.int .i64 g) (.float .f64 r) (.string s) (.slice ka (Di.of L).keys.length kc) (.slice a (Di.of L).kids.len cap)) (.inl (by omega)) (.int .i64 0) (.int .i64 0) (.int .i64 0) (.float .f64 0) (.string ⟨#[]⟩) (.slice none 0 0) (.slice none 0 0)
    have hKg := hKe.drew
    exact ⟨hKg, i, g, r, s, Di.of L, ka, kc, a, cap, false, Nd.zero, none, 0, none, 0, true, rfl, fun _ => ⟨HZ4.out, lt_kept hKg hN ⟨HFL.out, HKE.out, HKI.out⟩, zeroNode, .lookNo (by simp) HNO.out⟩⟩)
set_option maxRecDepth 100000 in
set_option maxHeartbeats 8000000 in
theorem do_look0_4 (L : List (ByteArray × Nd)) (op : Int) (key : ByteArray) (y : Nd) (i g : Int) (r : Nat) (s : ByteArray) (N : Bd) (ka : Option Addr) (kc : Nat) (a : Option Addr) (cap : Nat) (kb : Option Addr) (kd : Nat) (ab : Option Addr) (capb : Nat) (w : World) (hd : DiOk (Di.of L)) (hz : Z4 i g r s) (hn : Node (LtB N) w 8 i g r s (Di.of L).keys (Di.of L).kids ka kc a cap)
    (hy : Node (LtB N) w y.k y.i y.g y.r y.s y.keys y.kids kb kd ab capb) (hN : N.n ≤ w.heap.size) (hky : Simp key) (hyo : NdOk y) (hop : I64 op) (_hlb : L.length ≤ 1000000000000) (hop1 : op = 4) (hno0 : key ∉ (Di.of L).keys) :
    Calls Tryz.prog 17 #[.agg #[.int .i64 8, .int .i64 i, .int .i64 g, .float .f64 r, .string s, .slice ka (Di.of L).keys.length kc, .slice a (Di.of L).kids.len cap], .agg #[.int .i64 op, .string key, .int .i64 y.k, .int .i64 y.i, .int .i64 y.g, .float .f64 y.r, .string y.s, .slice kb y.keys.length kd, .slice ab y.kids.len capb]] w (DoE N (Di.of L) op key y w) := by
  have HOP := Lib.hid hop1; clear hop1
  obtain ⟨⟨⟨k1, k2⟩, ⟨i1, i2⟩, ⟨g1, g2⟩, r1, s1⟩, hkeys, hkids⟩ := hn
  have hkl : (Di.of L).keys.length = L.length := by simp [Di.of]
  have hil : (Di.of L).kids.len = L.length := by simp [Di.of, F.of_len]
  obtain ⟨w0, hw0⟩ : ∃ w0, w0 = (((w.alloc (.cells #[.int .i64 8, .int .i64 i, .int .i64 g, .float .f64 r, .string s, .slice ka (Di.of L).keys.length kc, .slice a (Di.of L).kids.len cap] 26)).alloc (.cells #[.int .i64 op, .string key, .int .i64 y.k, .int .i64 y.i, .int .i64 y.g, .float .f64 y.r, .string y.s, .slice kb y.keys.length kd, .slice ab y.kids.len capb] 45)).alloc (.cells #[.int .i64 0, .int .i64 0, .int .i64 0, .float .f64 0, .string ⟨#[]⟩, .slice none 0 0, .slice none 0 0] 26)).alloc (.cells #[.int .i64 0, .int .i64 0, .int .i64 0, .float .f64 0, .string ⟨#[]⟩, .slice none 0 0, .slice none 0 0] 26) := ⟨_, rfl⟩
  have hK0 : Kept [] w w0 := by rw [hw0]; exact ((((Kept.refl [] w).alloc _).alloc _).alloc _).alloc _
  have hX : w0.heap[w.heap.size]? = some (.cells #[.int .i64 8, .int .i64 i, .int .i64 g, .float .f64 r, .string s, .slice ka (Di.of L).keys.length kc, .slice a (Di.of L).kids.len cap] 26 (0, 0)) := by rw [hw0, heap_lt (by simp; omega), heap_lt (by simp; omega), heap_lt (by simp)]; exact heap_at rfl
  have hT : w0.heap[w.heap.size + 1]? = some (.cells #[.int .i64 op, .string key, .int .i64 y.k, .int .i64 y.i, .int .i64 y.g, .float .f64 y.r, .string y.s, .slice kb y.keys.length kd, .slice ab y.kids.len capb] 45 (0, 0)) := by rw [hw0, heap_lt (by simp), heap_lt (by simp)]; exact heap_at (by simp)
  have hA : w0.heap[w.heap.size + 1 + 1]? = some (.cells #[.int .i64 0, .int .i64 0, .int .i64 0, .float .f64 0, .string ⟨#[]⟩, .slice none 0 0, .slice none 0 0] 26 (0, 0)) := by rw [hw0, heap_lt (by simp)]; exact heap_at (by simp)
  have hB : w0.heap[w.heap.size + 1 + 1 + 1]? = some (.cells #[.int .i64 0, .int .i64 0, .int .i64 0, .float .f64 0, .string ⟨#[]⟩, .slice none 0 0, .slice none 0 0] 26 (0, 0)) := by rw [hw0]; exact heap_at (by simp)
  have hkeys0 := hkeys.kept hK0 (ltkB hN (by simp))
  have hkids0 := hkids.kept hK0 (ltkB hN (by simp))
  have hfind := dictfind key 8 i g r s (Di.of L).keys (Di.of L).kids N ka kc a cap w0 ⟨⟨⟨k1, k2⟩, ⟨i1, i2⟩, ⟨g1, g2⟩, r1, s1⟩, hkeys0, hkids0⟩ (Nat.le_trans hN hK0.size)
  have hfld : Fld 8 i g r s := ⟨⟨k1, k2⟩, ⟨i1, i2⟩, ⟨g1, g2⟩, r1, s1⟩
  obtain ⟨⟨c0, c1, c2, c3, c4, c5, c6⟩, _⟩ := seven hX
  obtain ⟨t0, t1, t2, t3, t4, t5, t6, t7, t8⟩ := nine hT
  have HX := Lib.hid hX; have HT := Lib.hid hT; have HA := Lib.hid hA; have HB := Lib.hid hB; have HKE := Lib.hid hkeys; have HKI := Lib.hid hkids; have HKI0 := Lib.hid hkids0; have HY := Lib.hid hy; have HF := Lib.hid hfind; have HFL := Lib.hid hfld; have HD := Lib.hid hd; have HKY := Lib.hid hky; have HYO := Lib.hid hyo; have HZ4 := Lib.hid hz; have HKL := Lib.hid hkl; have HIL := Lib.hid hil
  clear hX hT hA hB hkeys hkids hkeys0 hkids0 hy hfind hfld hd hky hyo hz hkl hil
  go_enter Tryz.func17, Tryz.ntmps17
  go_upto_region 1 with fail
  rw [← hw0]
  clear hw0
  go_wp2_with fail
  refine HF.out.mono ?_
  rintro e w1 ⟨hK1, p, rfl, hp⟩
  have hK2 : Kept [] w w1 := Kept.trans hK0 hK1 (by simp) (by simp)
  have hXr := (hK1.block w.heap.size (lt_of_block HX.out) (by simp)).trans HX.out
  have hTr := (hK1.block (w.heap.size + 1) (lt_of_block HT.out) (by simp)).trans HT.out
  have hAr := (hK1.block (w.heap.size + 1 + 1) (lt_of_block HA.out) (by simp)).trans HA.out
  have hBr := (hK1.block (w.heap.size + 1 + 1 + 1) (lt_of_block HB.out) (by simp)).trans HB.out
  clear c0 c1 c2 c3 c4 c5 c6 t0 t1 t2 t3 t4 t5 t6 t7 t8
  rcases hp with ⟨rfl, hno⟩ | ⟨j, rfl, hat, hmin⟩
  case' inr => exact absurd (List.mem_of_getElem? hat) hno0
  obtain ⟨W, hW⟩ : ∃ W, W = w1 := ⟨_, rfl⟩
  rw [← hW] at hXr hTr hAr hBr hK2 ⊢
  have hKW := hK2
  have HXr := Lib.hid hXr; have HTr := Lib.hid hTr; have HAr := Lib.hid hAr; have HBr := Lib.hid hBr; have HNO := Lib.hid hno
  obtain ⟨⟨c0, c1, c2, c3, c4, c5, c6⟩, _⟩ := seven hXr
  obtain ⟨t0, t1, t2, t3, t4, t5, t6, t7, t8⟩ := nine hTr
  obtain ⟨⟨a0, a1, a2, a3, a4, a5, a6⟩, p0, p1, p2, p3, p4, p5, p6⟩ := seven hAr
  obtain ⟨⟨b0, b1, b2, b3, b4, b5, b6⟩, q0, q1, q2, q3, q4, q5, q6⟩ := seven hBr
  clear hno hno0 hXr hTr hAr hBr hW hK1 hK2
  have hbz := lt_of_block HBr.out
  obtain ⟨o1, o2⟩ := hop
  have hop1 := HOP.out; clear HOP
  subst hop1
  go_wp2_with fail
  go_region
  all_goals go_wp2_with fail
  all_goals (
    have hoff1 : ∀ n : Nat, (⟨w.heap.size + 1 + 1, 0, none⟩ : Addr).add n = ⟨w.heap.size + 1 + 1, n, none⟩ := fun n => addr0 _ _
    have hoff2 : ∀ n : Nat, (⟨w.heap.size + 1 + 1 + 1, 0, none⟩ : Addr).add n = ⟨w.heap.size + 1 + 1 + 1, n, none⟩ := fun n => addr0 _ _
    refine bodyPost_ret (v := .tuple #[.agg #[.int .i64 8, .int .i64 i, .int .i64 g, .float .f64 r, .string s, .slice ka (Di.of L).keys.length kc, .slice a (Di.of L).kids.len cap], .bool false, (.agg #[.int .i64 0,.int .i64 0,.int .i64 0,.float .f64 0,.string ⟨#[]⟩,.slice none 0 0,.slice none 0 0]), .bool true]) (by simp [results, Tryz.results17, go_sem, hoff1, hoff2, a0, a1, a2, a3, a4, a5, a6, b0, b1, b2, b3, b4, b5, b6]) rfl ?_
    have hKe := kept7 (b := w.heap.size + 1 + 1 + 1) (kept7 (b := w.heap.size + 1 + 1) hKW (.inl (by omega)) (.int .i64 8) (.int .i64 i) (.int .i64 g) (.float .f64 r) (.string s) (.slice ka (Di.of L).keys.length kc) (.slice a (Di.of L).kids.len cap)) (.inl (by omega)) (.int .i64 0) (.int .i64 0) (.int .i64 0) (.float .f64 0) (.string ⟨#[]⟩) (.slice none 0 0) (.slice none 0 0)
    have hKg := hKe.drew
    exact ⟨hKg, i, g, r, s, Di.of L, ka, kc, a, cap, false, Nd.zero, none, 0, none, 0, true, rfl, fun _ => ⟨HZ4.out, lt_kept hKg hN ⟨HFL.out, HKE.out, HKI.out⟩, zeroNode, .lookNo (by simp) HNO.out⟩⟩)
set_option maxRecDepth 100000 in
set_option maxHeartbeats 8000000 in
theorem do_look0_5 (L : List (ByteArray × Nd)) (op : Int) (key : ByteArray) (y : Nd) (i g : Int) (r : Nat) (s : ByteArray) (N : Bd) (ka : Option Addr) (kc : Nat) (a : Option Addr) (cap : Nat) (kb : Option Addr) (kd : Nat) (ab : Option Addr) (capb : Nat) (w : World) (hd : DiOk (Di.of L)) (hz : Z4 i g r s) (hn : Node (LtB N) w 8 i g r s (Di.of L).keys (Di.of L).kids ka kc a cap)
    (hy : Node (LtB N) w y.k y.i y.g y.r y.s y.keys y.kids kb kd ab capb) (hN : N.n ≤ w.heap.size) (hky : Simp key) (hyo : NdOk y) (hop : I64 op) (_hlb : L.length ≤ 1000000000000) (hop1 : op = 5) (hno0 : key ∉ (Di.of L).keys) :
    Calls Tryz.prog 17 #[.agg #[.int .i64 8, .int .i64 i, .int .i64 g, .float .f64 r, .string s, .slice ka (Di.of L).keys.length kc, .slice a (Di.of L).kids.len cap], .agg #[.int .i64 op, .string key, .int .i64 y.k, .int .i64 y.i, .int .i64 y.g, .float .f64 y.r, .string y.s, .slice kb y.keys.length kd, .slice ab y.kids.len capb]] w (DoE N (Di.of L) op key y w) := by
  have HOP := Lib.hid hop1; clear hop1
  obtain ⟨⟨⟨k1, k2⟩, ⟨i1, i2⟩, ⟨g1, g2⟩, r1, s1⟩, hkeys, hkids⟩ := hn
  have hkl : (Di.of L).keys.length = L.length := by simp [Di.of]
  have hil : (Di.of L).kids.len = L.length := by simp [Di.of, F.of_len]
  obtain ⟨w0, hw0⟩ : ∃ w0, w0 = (((w.alloc (.cells #[.int .i64 8, .int .i64 i, .int .i64 g, .float .f64 r, .string s, .slice ka (Di.of L).keys.length kc, .slice a (Di.of L).kids.len cap] 26)).alloc (.cells #[.int .i64 op, .string key, .int .i64 y.k, .int .i64 y.i, .int .i64 y.g, .float .f64 y.r, .string y.s, .slice kb y.keys.length kd, .slice ab y.kids.len capb] 45)).alloc (.cells #[.int .i64 0, .int .i64 0, .int .i64 0, .float .f64 0, .string ⟨#[]⟩, .slice none 0 0, .slice none 0 0] 26)).alloc (.cells #[.int .i64 0, .int .i64 0, .int .i64 0, .float .f64 0, .string ⟨#[]⟩, .slice none 0 0, .slice none 0 0] 26) := ⟨_, rfl⟩
  have hK0 : Kept [] w w0 := by rw [hw0]; exact ((((Kept.refl [] w).alloc _).alloc _).alloc _).alloc _
  have hX : w0.heap[w.heap.size]? = some (.cells #[.int .i64 8, .int .i64 i, .int .i64 g, .float .f64 r, .string s, .slice ka (Di.of L).keys.length kc, .slice a (Di.of L).kids.len cap] 26 (0, 0)) := by rw [hw0, heap_lt (by simp; omega), heap_lt (by simp; omega), heap_lt (by simp)]; exact heap_at rfl
  have hT : w0.heap[w.heap.size + 1]? = some (.cells #[.int .i64 op, .string key, .int .i64 y.k, .int .i64 y.i, .int .i64 y.g, .float .f64 y.r, .string y.s, .slice kb y.keys.length kd, .slice ab y.kids.len capb] 45 (0, 0)) := by rw [hw0, heap_lt (by simp), heap_lt (by simp)]; exact heap_at (by simp)
  have hA : w0.heap[w.heap.size + 1 + 1]? = some (.cells #[.int .i64 0, .int .i64 0, .int .i64 0, .float .f64 0, .string ⟨#[]⟩, .slice none 0 0, .slice none 0 0] 26 (0, 0)) := by rw [hw0, heap_lt (by simp)]; exact heap_at (by simp)
  have hB : w0.heap[w.heap.size + 1 + 1 + 1]? = some (.cells #[.int .i64 0, .int .i64 0, .int .i64 0, .float .f64 0, .string ⟨#[]⟩, .slice none 0 0, .slice none 0 0] 26 (0, 0)) := by rw [hw0]; exact heap_at (by simp)
  have hkeys0 := hkeys.kept hK0 (ltkB hN (by simp))
  have hkids0 := hkids.kept hK0 (ltkB hN (by simp))
  have hfind := dictfind key 8 i g r s (Di.of L).keys (Di.of L).kids N ka kc a cap w0 ⟨⟨⟨k1, k2⟩, ⟨i1, i2⟩, ⟨g1, g2⟩, r1, s1⟩, hkeys0, hkids0⟩ (Nat.le_trans hN hK0.size)
  have hfld : Fld 8 i g r s := ⟨⟨k1, k2⟩, ⟨i1, i2⟩, ⟨g1, g2⟩, r1, s1⟩
  obtain ⟨⟨c0, c1, c2, c3, c4, c5, c6⟩, _⟩ := seven hX
  obtain ⟨t0, t1, t2, t3, t4, t5, t6, t7, t8⟩ := nine hT
  have HX := Lib.hid hX; have HT := Lib.hid hT; have HA := Lib.hid hA; have HB := Lib.hid hB; have HKE := Lib.hid hkeys; have HKI := Lib.hid hkids; have HKI0 := Lib.hid hkids0; have HY := Lib.hid hy; have HF := Lib.hid hfind; have HFL := Lib.hid hfld; have HD := Lib.hid hd; have HKY := Lib.hid hky; have HYO := Lib.hid hyo; have HZ4 := Lib.hid hz; have HKL := Lib.hid hkl; have HIL := Lib.hid hil
  clear hX hT hA hB hkeys hkids hkeys0 hkids0 hy hfind hfld hd hky hyo hz hkl hil
  go_enter Tryz.func17, Tryz.ntmps17
  go_upto_region 1 with fail
  rw [← hw0]
  clear hw0
  go_wp2_with fail
  refine HF.out.mono ?_
  rintro e w1 ⟨hK1, p, rfl, hp⟩
  have hK2 : Kept [] w w1 := Kept.trans hK0 hK1 (by simp) (by simp)
  have hXr := (hK1.block w.heap.size (lt_of_block HX.out) (by simp)).trans HX.out
  have hTr := (hK1.block (w.heap.size + 1) (lt_of_block HT.out) (by simp)).trans HT.out
  have hAr := (hK1.block (w.heap.size + 1 + 1) (lt_of_block HA.out) (by simp)).trans HA.out
  have hBr := (hK1.block (w.heap.size + 1 + 1 + 1) (lt_of_block HB.out) (by simp)).trans HB.out
  clear c0 c1 c2 c3 c4 c5 c6 t0 t1 t2 t3 t4 t5 t6 t7 t8
  rcases hp with ⟨rfl, hno⟩ | ⟨j, rfl, hat, hmin⟩
  case' inr => exact absurd (List.mem_of_getElem? hat) hno0
  obtain ⟨W, hW⟩ : ∃ W, W = w1 := ⟨_, rfl⟩
  rw [← hW] at hXr hTr hAr hBr hK2 ⊢
  have hKW := hK2
  have HXr := Lib.hid hXr; have HTr := Lib.hid hTr; have HAr := Lib.hid hAr; have HBr := Lib.hid hBr; have HNO := Lib.hid hno
  obtain ⟨⟨c0, c1, c2, c3, c4, c5, c6⟩, _⟩ := seven hXr
  obtain ⟨t0, t1, t2, t3, t4, t5, t6, t7, t8⟩ := nine hTr
  obtain ⟨⟨a0, a1, a2, a3, a4, a5, a6⟩, p0, p1, p2, p3, p4, p5, p6⟩ := seven hAr
  obtain ⟨⟨b0, b1, b2, b3, b4, b5, b6⟩, q0, q1, q2, q3, q4, q5, q6⟩ := seven hBr
  clear hno hno0 hXr hTr hAr hBr hW hK1 hK2
  have hbz := lt_of_block HBr.out
  obtain ⟨o1, o2⟩ := hop
  have hop1 := HOP.out; clear HOP
  subst hop1
  go_wp2_with fail
  go_region
  all_goals go_wp2_with fail
  all_goals (
    have hoff1 : ∀ n : Nat, (⟨w.heap.size + 1 + 1, 0, none⟩ : Addr).add n = ⟨w.heap.size + 1 + 1, n, none⟩ := fun n => addr0 _ _
    have hoff2 : ∀ n : Nat, (⟨w.heap.size + 1 + 1 + 1, 0, none⟩ : Addr).add n = ⟨w.heap.size + 1 + 1 + 1, n, none⟩ := fun n => addr0 _ _
    refine bodyPost_ret (v := .tuple #[.agg #[.int .i64 8, .int .i64 i, .int .i64 g, .float .f64 r, .string s, .slice ka (Di.of L).keys.length kc, .slice a (Di.of L).kids.len cap], .bool false, (.agg #[.int .i64 0,.int .i64 0,.int .i64 0,.float .f64 0,.string ⟨#[]⟩,.slice none 0 0,.slice none 0 0]), .bool true]) (by simp [results, Tryz.results17, go_sem, hoff1, hoff2, a0, a1, a2, a3, a4, a5, a6, b0, b1, b2, b3, b4, b5, b6]) rfl ?_
    have hKe := kept7 (b := w.heap.size + 1 + 1 + 1) (kept7 (b := w.heap.size + 1 + 1) hKW (.inl (by omega)) (.int .i64 8) (.int .i64 i) (.int .i64 g) (.float .f64 r) (.string s) (.slice ka (Di.of L).keys.length kc) (.slice a (Di.of L).kids.len cap)) (.inl (by omega)) (.int .i64 0) (.int .i64 0) (.int .i64 0) (.float .f64 0) (.string ⟨#[]⟩) (.slice none 0 0) (.slice none 0 0)
    have hKg := hKe.drew
    exact ⟨hKg, i, g, r, s, Di.of L, ka, kc, a, cap, false, Nd.zero, none, 0, none, 0, true, rfl, fun _ => ⟨HZ4.out, lt_kept hKg hN ⟨HFL.out, HKE.out, HKI.out⟩, zeroNode, .lookNo (by simp) HNO.out⟩⟩)
end Go.Proofs.YtfkecmlmnhbmoaaGreatDoor
namespace Go.Proofs.YtfkecmlmnhbmoaaGreatDoor
open Go.RowKit Go.Maps
set_option maxRecDepth 100000 in
set_option maxHeartbeats 8000000 in
theorem do_ins1 (L : List (ByteArray × Nd)) (op : Int) (key : ByteArray) (y : Nd) (i g : Int) (r : Nat) (s : ByteArray) (N : Bd) (ka : Option Addr) (kc : Nat) (a : Option Addr) (cap : Nat) (kb : Option Addr) (kd : Nat) (ab : Option Addr) (capb : Nat) (w : World) (hd : DiOk (Di.of L)) (hz : Z4 i g r s) (hn : Node (LtB N) w 8 i g r s (Di.of L).keys (Di.of L).kids ka kc a cap)
    (hy : Node (LtB N) w y.k y.i y.g y.r y.s y.keys y.kids kb kd ab capb) (hN : N.n ≤ w.heap.size) (hky : Simp key) (hyo : NdOk y) (hop : I64 op) (_hlb : L.length ≤ 1000000000000) (hop1 : op = 0) (hin : key ∈ (Di.of L).keys) :
    Calls Tryz.prog 17 #[.agg #[.int .i64 8, .int .i64 i, .int .i64 g, .float .f64 r, .string s, .slice ka (Di.of L).keys.length kc, .slice a (Di.of L).kids.len cap], .agg #[.int .i64 op, .string key, .int .i64 y.k, .int .i64 y.i, .int .i64 y.g, .float .f64 y.r, .string y.s, .slice kb y.keys.length kd, .slice ab y.kids.len capb]] w (DoE N (Di.of L) op key y w) := by
  have HOP := Lib.hid hop1; clear hop1
  obtain ⟨⟨⟨k1, k2⟩, ⟨i1, i2⟩, ⟨g1, g2⟩, r1, s1⟩, hkeys, hkids⟩ := hn
  have hkl : (Di.of L).keys.length = L.length := by simp [Di.of]
  have hil : (Di.of L).kids.len = L.length := by simp [Di.of, F.of_len]
  obtain ⟨w0, hw0⟩ : ∃ w0, w0 = (((w.alloc (.cells #[.int .i64 8, .int .i64 i, .int .i64 g, .float .f64 r, .string s, .slice ka (Di.of L).keys.length kc, .slice a (Di.of L).kids.len cap] 26)).alloc (.cells #[.int .i64 op, .string key, .int .i64 y.k, .int .i64 y.i, .int .i64 y.g, .float .f64 y.r, .string y.s, .slice kb y.keys.length kd, .slice ab y.kids.len capb] 45)).alloc (.cells #[.int .i64 0, .int .i64 0, .int .i64 0, .float .f64 0, .string ⟨#[]⟩, .slice none 0 0, .slice none 0 0] 26)).alloc (.cells #[.int .i64 0, .int .i64 0, .int .i64 0, .float .f64 0, .string ⟨#[]⟩, .slice none 0 0, .slice none 0 0] 26) := ⟨_, rfl⟩
  have hK0 : Kept [] w w0 := by rw [hw0]; exact ((((Kept.refl [] w).alloc _).alloc _).alloc _).alloc _
  have hX : w0.heap[w.heap.size]? = some (.cells #[.int .i64 8, .int .i64 i, .int .i64 g, .float .f64 r, .string s, .slice ka (Di.of L).keys.length kc, .slice a (Di.of L).kids.len cap] 26 (0, 0)) := by rw [hw0, heap_lt (by simp; omega), heap_lt (by simp; omega), heap_lt (by simp)]; exact heap_at rfl
  have hT : w0.heap[w.heap.size + 1]? = some (.cells #[.int .i64 op, .string key, .int .i64 y.k, .int .i64 y.i, .int .i64 y.g, .float .f64 y.r, .string y.s, .slice kb y.keys.length kd, .slice ab y.kids.len capb] 45 (0, 0)) := by rw [hw0, heap_lt (by simp), heap_lt (by simp)]; exact heap_at (by simp)
  have hA : w0.heap[w.heap.size + 1 + 1]? = some (.cells #[.int .i64 0, .int .i64 0, .int .i64 0, .float .f64 0, .string ⟨#[]⟩, .slice none 0 0, .slice none 0 0] 26 (0, 0)) := by rw [hw0, heap_lt (by simp)]; exact heap_at (by simp)
  have hB : w0.heap[w.heap.size + 1 + 1 + 1]? = some (.cells #[.int .i64 0, .int .i64 0, .int .i64 0, .float .f64 0, .string ⟨#[]⟩, .slice none 0 0, .slice none 0 0] 26 (0, 0)) := by rw [hw0]; exact heap_at (by simp)
  have hkeys0 := hkeys.kept hK0 (ltkB hN (by simp))
  have hkids0 := hkids.kept hK0 (ltkB hN (by simp))
  have hfind := dictfind key 8 i g r s (Di.of L).keys (Di.of L).kids N ka kc a cap w0 ⟨⟨⟨k1, k2⟩, ⟨i1, i2⟩, ⟨g1, g2⟩, r1, s1⟩, hkeys0, hkids0⟩ (Nat.le_trans hN hK0.size)
  have hfld : Fld 8 i g r s := ⟨⟨k1, k2⟩, ⟨i1, i2⟩, ⟨g1, g2⟩, r1, s1⟩
  obtain ⟨⟨c0, c1, c2, c3, c4, c5, c6⟩, _⟩ := seven hX
  obtain ⟨t0, t1, t2, t3, t4, t5, t6, t7, t8⟩ := nine hT
  have HX := Lib.hid hX; have HT := Lib.hid hT; have HA := Lib.hid hA; have HB := Lib.hid hB; have HKE := Lib.hid hkeys; have HKI := Lib.hid hkids; have HKI0 := Lib.hid hkids0; have HY := Lib.hid hy; have HF := Lib.hid hfind; have HFL := Lib.hid hfld; have HD := Lib.hid hd; have HKY := Lib.hid hky; have HYO := Lib.hid hyo; have HZ4 := Lib.hid hz; have HKL := Lib.hid hkl; have HIL := Lib.hid hil
  clear hX hT hA hB hkeys hkids hkeys0 hkids0 hy hfind hfld hd hky hyo hz hkl hil
  go_enter Tryz.func17, Tryz.ntmps17
  go_upto_region 1 with fail
  rw [← hw0]
  clear hw0
  go_wp2_with fail
  refine HF.out.mono ?_
  rintro e w1 ⟨hK1, p, rfl, hp⟩
  have hK2 : Kept [] w w1 := Kept.trans hK0 hK1 (by simp) (by simp)
  have hXr := (hK1.block w.heap.size (lt_of_block HX.out) (by simp)).trans HX.out
  have hTr := (hK1.block (w.heap.size + 1) (lt_of_block HT.out) (by simp)).trans HT.out
  have hAr := (hK1.block (w.heap.size + 1 + 1) (lt_of_block HA.out) (by simp)).trans HA.out
  have hBr := (hK1.block (w.heap.size + 1 + 1 + 1) (lt_of_block HB.out) (by simp)).trans HB.out
  clear c0 c1 c2 c3 c4 c5 c6 t0 t1 t2 t3 t4 t5 t6 t7 t8
  rcases hp with ⟨rfl, hno⟩ | ⟨j, rfl, hat, hmin⟩
  case' inl => exact absurd hin hno
  obtain ⟨hjl, hje⟩ := List.getElem?_eq_some_iff.1 hat
  rw [HKL.out] at hjl
  have hkey : (L[j]).1 = key := by rw [← hje]; simp [Di.of]
  obtain ⟨b', o', k', i', g', r', s', keys', kids', ka', kc', a', cap', rfl, hbN', hdr, hcs, hnode⟩ := HKI.out.at (j := j) (by rw [HIL.out]; exact hjl)
  have hpj := Di.of_kid hjl hdr
  have hvat : (Di.of L).At key ⟨k', i', g', r', s', keys', kids'⟩ := Di.of_at.2 (by rw [← hkey, ← hpj]; exact List.getElem_mem hjl)
  rw [Nat.mul_comm 7 j] at hcs
  have hbl : b' < N.n := hbN'.1
  have hcc : ∀ p, w1.cell? ⟨b', p, none⟩ = w.cell? ⟨b', p, none⟩ := fun p => hK2.cell (by omega) (by simp)
  obtain ⟨e0, e1, e2, e3, e4, e5, e6⟩ := hcs
  rw [← hcc] at e0 e1 e2 e3 e4 e5 e6
  have hjl2 : (j : Int) < ((Di.of L).kids.len : Int) := by rw [HIL.out]; omega
  have hj0 : (0 : Int) ≤ (j : Int) := Int.natCast_nonneg _
  have hjn : ((j : Int) < 0) = False := by simp
  have HXq := Lib.hid hXr; have HTq := Lib.hid hTr; have HAq := Lib.hid hAr; have HBq := Lib.hid hBr; have HVA := Lib.hid hvat; have HNV := Lib.hid hnode
  obtain ⟨⟨c0, c1, c2, c3, c4, c5, c6⟩, _⟩ := seven hXr
  obtain ⟨t0, t1, t2, t3, t4, t5, t6, t7, t8⟩ := nine hTr
  obtain ⟨⟨a0, a1, a2, a3, a4, a5, a6⟩, p0, p1, p2, p3, p4, p5, p6⟩ := seven hAr
  obtain ⟨⟨b0, b1, b2, b3, b4, b5, b6⟩, q0, q1, q2, q3, q4, q5, q6⟩ := seven hBr
  clear hXr hTr hAr hBr hvat hnode hpj hkey hje hat hmin hin hdr hcc
  go_upto_region 4 with fail
  obtain ⟨W, hW⟩ : ∃ W, W = ((((((w1.setCell ⟨w.heap.size + 1 + 1 + 1, 0, none⟩ (.int .i64 k')).setCell ⟨w.heap.size + 1 + 1 + 1, 1, none⟩ (.int .i64 i')).setCell ⟨w.heap.size + 1 + 1 + 1, 2, none⟩ (.int .i64 g')).setCell ⟨w.heap.size + 1 + 1 + 1, 3, none⟩ (.float .f64 r')).setCell ⟨w.heap.size + 1 + 1 + 1, 4, none⟩ (.string s')).setCell ⟨w.heap.size + 1 + 1 + 1, 5, none⟩ (.slice ka' keys'.length kc')).setCell ⟨w.heap.size + 1 + 1 + 1, 6, none⟩ (.slice a' kids'.len cap') := ⟨_, rfl⟩
  have hbz1 := lt_of_block HBq.out
  have hk1 : Kept [w.heap.size + 1 + 1 + 1] w1 W := by rw [hW]; exact kept7 (Kept.refl _ _) (.inr (by simp)) _ _ _ _ _ _ _
  have hKW : Kept [] w W := by rw [hW]; exact kept7 hK2 (.inl (by omega)) _ _ _ _ _ _ _
  have hXr := (hk1.block w.heap.size (lt_of_block HXq.out) (by simp only [List.mem_singleton]; omega)).trans HXq.out
  have hTr := (hk1.block (w.heap.size + 1) (lt_of_block HTq.out) (by simp only [List.mem_singleton]; omega)).trans HTq.out
  have hAr := (hk1.block (w.heap.size + 1 + 1) (lt_of_block HAq.out) (by simp only [List.mem_singleton]; omega)).trans HAq.out
  have hBr : W.heap[w.heap.size + 1 + 1 + 1]? = some (.cells #[.int .i64 k', .int .i64 i', .int .i64 g', .float .f64 r', .string s', .slice ka' keys'.length kc', .slice a' kids'.len cap'] 26 (0, 0)) := by rw [hW]; exact set7 HBq.out _ _ _ _ _ _ _
  rw [← hW]
  clear hW c0 c1 c2 c3 c4 c5 c6 t0 t1 t2 t3 t4 t5 t6 t7 t8 a0 a1 a2 a3 a4 a5 a6 p0 p1 p2 p3 p4 p5 p6 b0 b1 b2 b3 b4 b5 b6 q0 q1 q2 q3 q4 q5 q6 e0 e1 e2 e3 e4 e5 e6
  have HXr := Lib.hid hXr; have HTr := Lib.hid hTr; have HAr := Lib.hid hAr; have HBr := Lib.hid hBr
  obtain ⟨⟨c0, c1, c2, c3, c4, c5, c6⟩, _⟩ := seven hXr
  obtain ⟨t0, t1, t2, t3, t4, t5, t6, t7, t8⟩ := nine hTr
  obtain ⟨⟨a0, a1, a2, a3, a4, a5, a6⟩, p0, p1, p2, p3, p4, p5, p6⟩ := seven hAr
  obtain ⟨⟨b0, b1, b2, b3, b4, b5, b6⟩, q0, q1, q2, q3, q4, q5, q6⟩ := seven hBr
  clear hXr hTr hAr hBr
  have hbz := lt_of_block HBr.out
  obtain ⟨o1, o2⟩ := hop
  have hop1 := HOP.out; clear HOP
  subst hop1
  go_wp2_with fail
  have hoff1 : ∀ n : Nat, (⟨w.heap.size + 1 + 1, 0, none⟩ : Addr).add n = ⟨w.heap.size + 1 + 1, n, none⟩ := fun n => addr0 _ _
  have hoff2 : ∀ n : Nat, (⟨w.heap.size + 1 + 1 + 1, 0, none⟩ : Addr).add n = ⟨w.heap.size + 1 + 1 + 1, n, none⟩ := fun n => addr0 _ _
  refine bodyPost_ret (v := .tuple #[.agg #[.int .i64 8, .int .i64 i, .int .i64 g, .float .f64 r, .string s, .slice ka (Di.of L).keys.length kc, .slice (some ⟨b', o', none⟩) (Di.of L).kids.len cap], .bool false, (.agg #[.int .i64 0,.int .i64 0,.int .i64 0,.float .f64 0,.string ⟨#[]⟩,.slice none 0 0,.slice none 0 0]), .bool true]) (by simp [results, Tryz.results17, go_sem, hoff1, hoff2, a0, a1, a2, a3, a4, a5, a6, b0, b1, b2, b3, b4, b5, b6]) rfl ?_
  have hKe := kept7 (b := w.heap.size + 1 + 1 + 1) (kept7 (b := w.heap.size + 1 + 1) hKW (.inl (by omega)) (.int .i64 8) (.int .i64 i) (.int .i64 g) (.float .f64 r) (.string s) (.slice ka (Di.of L).keys.length kc) (.slice (some ⟨b', o', none⟩) (Di.of L).kids.len cap)) (.inl (by omega)) (.int .i64 0) (.int .i64 0) (.int .i64 0) (.float .f64 0) (.string ⟨#[]⟩) (.slice none 0 0) (.slice none 0 0)
  exact ⟨hKe, i, g, r, s, Di.of L, ka, kc, (some ⟨b', o', none⟩), cap, false, Nd.zero, none, 0, none, 0, true, rfl, fun _ => ⟨HZ4.out, lt_kept hKe hN ⟨HFL.out, HKE.out, HKI.out⟩, zeroNode, .insNo rfl HVA.out.mem⟩⟩
set_option maxRecDepth 100000 in
set_option maxHeartbeats 8000000 in
theorem do_upd1 (L : List (ByteArray × Nd)) (op : Int) (key : ByteArray) (y : Nd) (i g : Int) (r : Nat) (s : ByteArray) (N : Bd) (ka : Option Addr) (kc : Nat) (a : Option Addr) (cap : Nat) (kb : Option Addr) (kd : Nat) (ab : Option Addr) (capb : Nat) (w : World) (hd : DiOk (Di.of L)) (hz : Z4 i g r s) (hn : Node (LtB N) w 8 i g r s (Di.of L).keys (Di.of L).kids ka kc a cap)
    (hy : Node (LtB N) w y.k y.i y.g y.r y.s y.keys y.kids kb kd ab capb) (hN : N.n ≤ w.heap.size) (hky : Simp key) (hyo : NdOk y) (hop : I64 op) (hlb : L.length ≤ 1000000000000) (hop1 : op = 1) (hin : key ∈ (Di.of L).keys) :
    Calls Tryz.prog 17 #[.agg #[.int .i64 8, .int .i64 i, .int .i64 g, .float .f64 r, .string s, .slice ka (Di.of L).keys.length kc, .slice a (Di.of L).kids.len cap], .agg #[.int .i64 op, .string key, .int .i64 y.k, .int .i64 y.i, .int .i64 y.g, .float .f64 y.r, .string y.s, .slice kb y.keys.length kd, .slice ab y.kids.len capb]] w (DoE N (Di.of L) op key y w) := by
  have HOP := Lib.hid hop1; clear hop1
  obtain ⟨⟨⟨k1, k2⟩, ⟨i1, i2⟩, ⟨g1, g2⟩, r1, s1⟩, hkeys, hkids⟩ := hn
  have hkl : (Di.of L).keys.length = L.length := by simp [Di.of]
  have hil : (Di.of L).kids.len = L.length := by simp [Di.of, F.of_len]
  obtain ⟨w0, hw0⟩ : ∃ w0, w0 = (((w.alloc (.cells #[.int .i64 8, .int .i64 i, .int .i64 g, .float .f64 r, .string s, .slice ka (Di.of L).keys.length kc, .slice a (Di.of L).kids.len cap] 26)).alloc (.cells #[.int .i64 op, .string key, .int .i64 y.k, .int .i64 y.i, .int .i64 y.g, .float .f64 y.r, .string y.s, .slice kb y.keys.length kd, .slice ab y.kids.len capb] 45)).alloc (.cells #[.int .i64 0, .int .i64 0, .int .i64 0, .float .f64 0, .string ⟨#[]⟩, .slice none 0 0, .slice none 0 0] 26)).alloc (.cells #[.int .i64 0, .int .i64 0, .int .i64 0, .float .f64 0, .string ⟨#[]⟩, .slice none 0 0, .slice none 0 0] 26) := ⟨_, rfl⟩
  have hK0 : Kept [] w w0 := by rw [hw0]; exact ((((Kept.refl [] w).alloc _).alloc _).alloc _).alloc _
  have hX : w0.heap[w.heap.size]? = some (.cells #[.int .i64 8, .int .i64 i, .int .i64 g, .float .f64 r, .string s, .slice ka (Di.of L).keys.length kc, .slice a (Di.of L).kids.len cap] 26 (0, 0)) := by rw [hw0, heap_lt (by simp; omega), heap_lt (by simp; omega), heap_lt (by simp)]; exact heap_at rfl
  have hT : w0.heap[w.heap.size + 1]? = some (.cells #[.int .i64 op, .string key, .int .i64 y.k, .int .i64 y.i, .int .i64 y.g, .float .f64 y.r, .string y.s, .slice kb y.keys.length kd, .slice ab y.kids.len capb] 45 (0, 0)) := by rw [hw0, heap_lt (by simp), heap_lt (by simp)]; exact heap_at (by simp)
  have hA : w0.heap[w.heap.size + 1 + 1]? = some (.cells #[.int .i64 0, .int .i64 0, .int .i64 0, .float .f64 0, .string ⟨#[]⟩, .slice none 0 0, .slice none 0 0] 26 (0, 0)) := by rw [hw0, heap_lt (by simp)]; exact heap_at (by simp)
  have hB : w0.heap[w.heap.size + 1 + 1 + 1]? = some (.cells #[.int .i64 0, .int .i64 0, .int .i64 0, .float .f64 0, .string ⟨#[]⟩, .slice none 0 0, .slice none 0 0] 26 (0, 0)) := by rw [hw0]; exact heap_at (by simp)
  have hkeys0 := hkeys.kept hK0 (ltkB hN (by simp))
  have hkids0 := hkids.kept hK0 (ltkB hN (by simp))
  have hfind := dictfind key 8 i g r s (Di.of L).keys (Di.of L).kids N ka kc a cap w0 ⟨⟨⟨k1, k2⟩, ⟨i1, i2⟩, ⟨g1, g2⟩, r1, s1⟩, hkeys0, hkids0⟩ (Nat.le_trans hN hK0.size)
  have hfld : Fld 8 i g r s := ⟨⟨k1, k2⟩, ⟨i1, i2⟩, ⟨g1, g2⟩, r1, s1⟩
  obtain ⟨⟨c0, c1, c2, c3, c4, c5, c6⟩, _⟩ := seven hX
  obtain ⟨t0, t1, t2, t3, t4, t5, t6, t7, t8⟩ := nine hT
  have HX := Lib.hid hX; have HT := Lib.hid hT; have HA := Lib.hid hA; have HB := Lib.hid hB; have HKE := Lib.hid hkeys; have HKI := Lib.hid hkids; have HKI0 := Lib.hid hkids0; have HY := Lib.hid hy; have HF := Lib.hid hfind; have HFL := Lib.hid hfld; have HD := Lib.hid hd; have HKY := Lib.hid hky; have HYO := Lib.hid hyo; have HZ4 := Lib.hid hz; have HKL := Lib.hid hkl; have HIL := Lib.hid hil
  clear hX hT hA hB hkeys hkids hkeys0 hkids0 hy hfind hfld hd hky hyo hz hkl hil
  go_enter Tryz.func17, Tryz.ntmps17
  go_upto_region 1 with fail
  rw [← hw0]
  clear hw0
  go_wp2_with fail
  refine HF.out.mono ?_
  rintro e w1 ⟨hK1, p, rfl, hp⟩
  have hK2 : Kept [] w w1 := Kept.trans hK0 hK1 (by simp) (by simp)
  have hXr := (hK1.block w.heap.size (lt_of_block HX.out) (by simp)).trans HX.out
  have hTr := (hK1.block (w.heap.size + 1) (lt_of_block HT.out) (by simp)).trans HT.out
  have hAr := (hK1.block (w.heap.size + 1 + 1) (lt_of_block HA.out) (by simp)).trans HA.out
  have hBr := (hK1.block (w.heap.size + 1 + 1 + 1) (lt_of_block HB.out) (by simp)).trans HB.out
  clear c0 c1 c2 c3 c4 c5 c6 t0 t1 t2 t3 t4 t5 t6 t7 t8
  rcases hp with ⟨rfl, hno⟩ | ⟨j, rfl, hat, hmin⟩
  case' inl => exact absurd hin hno
  obtain ⟨hjl, hje⟩ := List.getElem?_eq_some_iff.1 hat
  rw [HKL.out] at hjl
  have hkey : (L[j]).1 = key := by rw [← hje]; simp [Di.of]
  obtain ⟨b', o', k', i', g', r', s', keys', kids', ka', kc', a', cap', rfl, hbN', hdr, hcs, hnode⟩ := HKI.out.at (j := j) (by rw [HIL.out]; exact hjl)
  have hpj := Di.of_kid hjl hdr
  have hvat : (Di.of L).At key ⟨k', i', g', r', s', keys', kids'⟩ := Di.of_at.2 (by rw [← hkey, ← hpj]; exact List.getElem_mem hjl)
  rw [Nat.mul_comm 7 j] at hcs
  have hbl : b' < N.n := hbN'.1
  have hcc : ∀ p, w1.cell? ⟨b', p, none⟩ = w.cell? ⟨b', p, none⟩ := fun p => hK2.cell (by omega) (by simp)
  obtain ⟨e0, e1, e2, e3, e4, e5, e6⟩ := hcs
  rw [← hcc] at e0 e1 e2 e3 e4 e5 e6
  have hjl2 : (j : Int) < ((Di.of L).kids.len : Int) := by rw [HIL.out]; omega
  have hj0 : (0 : Int) ≤ (j : Int) := Int.natCast_nonneg _
  have hjn : ((j : Int) < 0) = False := by simp
  have HXq := Lib.hid hXr; have HTq := Lib.hid hTr; have HAq := Lib.hid hAr; have HBq := Lib.hid hBr; have HVA := Lib.hid hvat; have HNV := Lib.hid hnode
  obtain ⟨⟨c0, c1, c2, c3, c4, c5, c6⟩, _⟩ := seven hXr
  obtain ⟨t0, t1, t2, t3, t4, t5, t6, t7, t8⟩ := nine hTr
  obtain ⟨⟨a0, a1, a2, a3, a4, a5, a6⟩, p0, p1, p2, p3, p4, p5, p6⟩ := seven hAr
  obtain ⟨⟨b0, b1, b2, b3, b4, b5, b6⟩, q0, q1, q2, q3, q4, q5, q6⟩ := seven hBr
  clear hXr hTr hAr hBr hvat hnode hpj hkey hje hat hmin hin hdr hcc
  go_upto_region 4 with fail
  obtain ⟨W, hW⟩ : ∃ W, W = ((((((w1.setCell ⟨w.heap.size + 1 + 1 + 1, 0, none⟩ (.int .i64 k')).setCell ⟨w.heap.size + 1 + 1 + 1, 1, none⟩ (.int .i64 i')).setCell ⟨w.heap.size + 1 + 1 + 1, 2, none⟩ (.int .i64 g')).setCell ⟨w.heap.size + 1 + 1 + 1, 3, none⟩ (.float .f64 r')).setCell ⟨w.heap.size + 1 + 1 + 1, 4, none⟩ (.string s')).setCell ⟨w.heap.size + 1 + 1 + 1, 5, none⟩ (.slice ka' keys'.length kc')).setCell ⟨w.heap.size + 1 + 1 + 1, 6, none⟩ (.slice a' kids'.len cap') := ⟨_, rfl⟩
  have hbz1 := lt_of_block HBq.out
  have hk1 : Kept [w.heap.size + 1 + 1 + 1] w1 W := by rw [hW]; exact kept7 (Kept.refl _ _) (.inr (by simp)) _ _ _ _ _ _ _
  have hKW : Kept [] w W := by rw [hW]; exact kept7 hK2 (.inl (by omega)) _ _ _ _ _ _ _
  have hXr := (hk1.block w.heap.size (lt_of_block HXq.out) (by simp only [List.mem_singleton]; omega)).trans HXq.out
  have hTr := (hk1.block (w.heap.size + 1) (lt_of_block HTq.out) (by simp only [List.mem_singleton]; omega)).trans HTq.out
  have hAr := (hk1.block (w.heap.size + 1 + 1) (lt_of_block HAq.out) (by simp only [List.mem_singleton]; omega)).trans HAq.out
  have hBr : W.heap[w.heap.size + 1 + 1 + 1]? = some (.cells #[.int .i64 k', .int .i64 i', .int .i64 g', .float .f64 r', .string s', .slice ka' keys'.length kc', .slice a' kids'.len cap'] 26 (0, 0)) := by rw [hW]; exact set7 HBq.out _ _ _ _ _ _ _
  rw [← hW]
  clear hW c0 c1 c2 c3 c4 c5 c6 t0 t1 t2 t3 t4 t5 t6 t7 t8 a0 a1 a2 a3 a4 a5 a6 p0 p1 p2 p3 p4 p5 p6 b0 b1 b2 b3 b4 b5 b6 q0 q1 q2 q3 q4 q5 q6 e0 e1 e2 e3 e4 e5 e6
  have HXr := Lib.hid hXr; have HTr := Lib.hid hTr; have HAr := Lib.hid hAr; have HBr := Lib.hid hBr
  obtain ⟨⟨c0, c1, c2, c3, c4, c5, c6⟩, _⟩ := seven hXr
  obtain ⟨t0, t1, t2, t3, t4, t5, t6, t7, t8⟩ := nine hTr
  obtain ⟨⟨a0, a1, a2, a3, a4, a5, a6⟩, p0, p1, p2, p3, p4, p5, p6⟩ := seven hAr
  obtain ⟨⟨b0, b1, b2, b3, b4, b5, b6⟩, q0, q1, q2, q3, q4, q5, q6⟩ := seven hBr
  clear hXr hTr hAr hBr
  have hbz := lt_of_block HBr.out
  obtain ⟨o1, o2⟩ := hop
  have hop1 := HOP.out; clear HOP
  subst hop1
  go_wp2_with fail
  refine (dictput L key y i g r s N ka kc (some ⟨b', o', none⟩) cap kb kd ab capb W HD.out ⟨HFL.out, HKE.out.kept hKW (ltkB hN (by simp)), HKI.out.kept hKW (ltkB hN (by simp))⟩ (HY.out.kept hKW (ltkB hN (by simp))) (Nat.le_trans hN hKW.size) HKY.out HYO.out hlb).mono ?_
  rintro e w2 ⟨hK3, d9, ka9, kc9, a9, cap9, rfl, hnode', hput⟩
  have HN := Lib.hid hnode'; have HP := Lib.hid hput; clear hnode' hput
  clear c0 c1 c2 c3 c4 c5 c6 t0 t1 t2 t3 t4 t5 t6 t7 t8 a0 a1 a2 a3 a4 a5 a6 p0 p1 p2 p3 p4 p5 p6 b0 b1 b2 b3 b4 b5 b6 q0 q1 q2 q3 q4 q5 q6
  have hX5 := (hK3.block w.heap.size (lt_of_block HXr.out) (by simp)).trans HXr.out
  have hT5 := (hK3.block (w.heap.size + 1) (lt_of_block HTr.out) (by simp)).trans HTr.out
  have hA5 := (hK3.block (w.heap.size + 1 + 1) (lt_of_block HAr.out) (by simp)).trans HAr.out
  have hB5 := (hK3.block (w.heap.size + 1 + 1 + 1) (lt_of_block HBr.out) (by simp)).trans HBr.out
  obtain ⟨⟨c0, c1, c2, c3, c4, c5, c6⟩, _⟩ := seven hX5
  obtain ⟨t0, t1, t2, t3, t4, t5, t6, t7, t8⟩ := nine hT5
  obtain ⟨⟨a0, a1, a2, a3, a4, a5, a6⟩, p0, p1, p2, p3, p4, p5, p6⟩ := seven hA5
  obtain ⟨⟨b0, b1, b2, b3, b4, b5, b6⟩, q0, q1, q2, q3, q4, q5, q6⟩ := seven hB5
  clear hX5 hT5 hA5 hB5
  go_wp2_with fail
  have hKf := kept7 (b := w.heap.size + 1 + 1 + 1) (kept7 (b := w.heap.size + 1 + 1) (Kept.refl [w.heap.size + 1 + 1, w.heap.size + 1 + 1 + 1] w2) (.inr (by simp)) (.int .i64 8) (.int .i64 0) (.int .i64 0) (.float .f64 0) (.string ⟨#[]⟩) (.slice ka9 d9.keys.length kc9) (.slice a9 d9.kids.len cap9)) (.inr (by simp)) (.int .i64 0) (.int .i64 0) (.int .i64 0) (.float .f64 0) (.string ⟨#[]⟩) (.slice none 0 0) (.slice none 0 0)
  have hKw : Kept [] w w2 := Kept.trans hKW hK3 (by simp) (by simp)
  have hKe := kept7 (b := w.heap.size + 1 + 1 + 1) (kept7 (b := w.heap.size + 1 + 1) hKw (.inl (by omega)) (.int .i64 8) (.int .i64 0) (.int .i64 0) (.float .f64 0) (.string ⟨#[]⟩) (.slice ka9 d9.keys.length kc9) (.slice a9 d9.kids.len cap9)) (.inl (by omega)) (.int .i64 0) (.int .i64 0) (.int .i64 0) (.float .f64 0) (.string ⟨#[]⟩) (.slice none 0 0) (.slice none 0 0)
  have hoff1 : ∀ n : Nat, (⟨w.heap.size + 1 + 1, 0, none⟩ : Addr).add n = ⟨w.heap.size + 1 + 1, n, none⟩ := fun n => addr0 _ _
  have hoff2 : ∀ n : Nat, (⟨w.heap.size + 1 + 1 + 1, 0, none⟩ : Addr).add n = ⟨w.heap.size + 1 + 1 + 1, n, none⟩ := fun n => addr0 _ _
  refine bodyPost_ret (v := .tuple #[.agg #[.int .i64 8, .int .i64 0, .int .i64 0, .float .f64 0, .string ⟨#[]⟩, .slice ka9 d9.keys.length kc9, .slice a9 d9.kids.len cap9], .bool true, (.agg #[.int .i64 0,.int .i64 0,.int .i64 0,.float .f64 0,.string ⟨#[]⟩,.slice none 0 0,.slice none 0 0]), .bool true]) (by simp [results, Tryz.results17, go_sem, hoff1, hoff2, a0, a1, a2, a3, a4, a5, a6, b0, b1, b2, b3, b4, b5, b6]) rfl ?_
  refine ⟨hKe, 0, 0, 0, ⟨#[]⟩, d9, ka9, kc9, a9, cap9, true, Nd.zero, none, 0, none, 0, true, rfl, fun _ => ⟨⟨rfl, rfl, feq00, rfl⟩, fr_kept hKW hKf (fun x hx => ?_) (Nat.le_trans hN hKw.size) HN.out, zeroNode, .upd rfl HVA.out.mem HP.out⟩⟩
  simp at hx
  omega
set_option maxRecDepth 100000 in
set_option maxHeartbeats 8000000 in
theorem do_else1 (L : List (ByteArray × Nd)) (op : Int) (key : ByteArray) (y : Nd) (i g : Int) (r : Nat) (s : ByteArray) (N : Bd) (ka : Option Addr) (kc : Nat) (a : Option Addr) (cap : Nat) (kb : Option Addr) (kd : Nat) (ab : Option Addr) (capb : Nat) (w : World) (hd : DiOk (Di.of L)) (hz : Z4 i g r s) (hn : Node (LtB N) w 8 i g r s (Di.of L).keys (Di.of L).kids ka kc a cap)
    (hy : Node (LtB N) w y.k y.i y.g y.r y.s y.keys y.kids kb kd ab capb) (hN : N.n ≤ w.heap.size) (hky : Simp key) (hyo : NdOk y) (hop : I64 op) (_hlb : L.length ≤ 1000000000000) (hop1 : op ≠ 0 ∧ op ≠ 1 ∧ op ≠ 2 ∧ op ≠ 3 ∧ op ≠ 4 ∧ op ≠ 5 ∧ op ≠ 6) (hin : key ∈ (Di.of L).keys) :
    Calls Tryz.prog 17 #[.agg #[.int .i64 8, .int .i64 i, .int .i64 g, .float .f64 r, .string s, .slice ka (Di.of L).keys.length kc, .slice a (Di.of L).kids.len cap], .agg #[.int .i64 op, .string key, .int .i64 y.k, .int .i64 y.i, .int .i64 y.g, .float .f64 y.r, .string y.s, .slice kb y.keys.length kd, .slice ab y.kids.len capb]] w (DoE N (Di.of L) op key y w) := by
  have HOP := Lib.hid hop1; clear hop1
  obtain ⟨⟨⟨k1, k2⟩, ⟨i1, i2⟩, ⟨g1, g2⟩, r1, s1⟩, hkeys, hkids⟩ := hn
  have hkl : (Di.of L).keys.length = L.length := by simp [Di.of]
  have hil : (Di.of L).kids.len = L.length := by simp [Di.of, F.of_len]
  obtain ⟨w0, hw0⟩ : ∃ w0, w0 = (((w.alloc (.cells #[.int .i64 8, .int .i64 i, .int .i64 g, .float .f64 r, .string s, .slice ka (Di.of L).keys.length kc, .slice a (Di.of L).kids.len cap] 26)).alloc (.cells #[.int .i64 op, .string key, .int .i64 y.k, .int .i64 y.i, .int .i64 y.g, .float .f64 y.r, .string y.s, .slice kb y.keys.length kd, .slice ab y.kids.len capb] 45)).alloc (.cells #[.int .i64 0, .int .i64 0, .int .i64 0, .float .f64 0, .string ⟨#[]⟩, .slice none 0 0, .slice none 0 0] 26)).alloc (.cells #[.int .i64 0, .int .i64 0, .int .i64 0, .float .f64 0, .string ⟨#[]⟩, .slice none 0 0, .slice none 0 0] 26) := ⟨_, rfl⟩
  have hK0 : Kept [] w w0 := by rw [hw0]; exact ((((Kept.refl [] w).alloc _).alloc _).alloc _).alloc _
  have hX : w0.heap[w.heap.size]? = some (.cells #[.int .i64 8, .int .i64 i, .int .i64 g, .float .f64 r, .string s, .slice ka (Di.of L).keys.length kc, .slice a (Di.of L).kids.len cap] 26 (0, 0)) := by rw [hw0, heap_lt (by simp; omega), heap_lt (by simp; omega), heap_lt (by simp)]; exact heap_at rfl
  have hT : w0.heap[w.heap.size + 1]? = some (.cells #[.int .i64 op, .string key, .int .i64 y.k, .int .i64 y.i, .int .i64 y.g, .float .f64 y.r, .string y.s, .slice kb y.keys.length kd, .slice ab y.kids.len capb] 45 (0, 0)) := by rw [hw0, heap_lt (by simp), heap_lt (by simp)]; exact heap_at (by simp)
  have hA : w0.heap[w.heap.size + 1 + 1]? = some (.cells #[.int .i64 0, .int .i64 0, .int .i64 0, .float .f64 0, .string ⟨#[]⟩, .slice none 0 0, .slice none 0 0] 26 (0, 0)) := by rw [hw0, heap_lt (by simp)]; exact heap_at (by simp)
  have hB : w0.heap[w.heap.size + 1 + 1 + 1]? = some (.cells #[.int .i64 0, .int .i64 0, .int .i64 0, .float .f64 0, .string ⟨#[]⟩, .slice none 0 0, .slice none 0 0] 26 (0, 0)) := by rw [hw0]; exact heap_at (by simp)
  have hkeys0 := hkeys.kept hK0 (ltkB hN (by simp))
  have hkids0 := hkids.kept hK0 (ltkB hN (by simp))
  have hfind := dictfind key 8 i g r s (Di.of L).keys (Di.of L).kids N ka kc a cap w0 ⟨⟨⟨k1, k2⟩, ⟨i1, i2⟩, ⟨g1, g2⟩, r1, s1⟩, hkeys0, hkids0⟩ (Nat.le_trans hN hK0.size)
  have hfld : Fld 8 i g r s := ⟨⟨k1, k2⟩, ⟨i1, i2⟩, ⟨g1, g2⟩, r1, s1⟩
  obtain ⟨⟨c0, c1, c2, c3, c4, c5, c6⟩, _⟩ := seven hX
  obtain ⟨t0, t1, t2, t3, t4, t5, t6, t7, t8⟩ := nine hT
  have HX := Lib.hid hX; have HT := Lib.hid hT; have HA := Lib.hid hA; have HB := Lib.hid hB; have HKE := Lib.hid hkeys; have HKI := Lib.hid hkids; have HKI0 := Lib.hid hkids0; have HY := Lib.hid hy; have HF := Lib.hid hfind; have HFL := Lib.hid hfld; have HD := Lib.hid hd; have HKY := Lib.hid hky; have HYO := Lib.hid hyo; have HZ4 := Lib.hid hz; have HKL := Lib.hid hkl; have HIL := Lib.hid hil
  clear hX hT hA hB hkeys hkids hkeys0 hkids0 hy hfind hfld hd hky hyo hz hkl hil
  go_enter Tryz.func17, Tryz.ntmps17
  go_upto_region 1 with fail
  rw [← hw0]
  clear hw0
  go_wp2_with fail
  refine HF.out.mono ?_
  rintro e w1 ⟨hK1, p, rfl, hp⟩
  have hK2 : Kept [] w w1 := Kept.trans hK0 hK1 (by simp) (by simp)
  have hXr := (hK1.block w.heap.size (lt_of_block HX.out) (by simp)).trans HX.out
  have hTr := (hK1.block (w.heap.size + 1) (lt_of_block HT.out) (by simp)).trans HT.out
  have hAr := (hK1.block (w.heap.size + 1 + 1) (lt_of_block HA.out) (by simp)).trans HA.out
  have hBr := (hK1.block (w.heap.size + 1 + 1 + 1) (lt_of_block HB.out) (by simp)).trans HB.out
  clear c0 c1 c2 c3 c4 c5 c6 t0 t1 t2 t3 t4 t5 t6 t7 t8
  rcases hp with ⟨rfl, hno⟩ | ⟨j, rfl, hat, hmin⟩
  case' inl => exact absurd hin hno
  obtain ⟨hjl, hje⟩ := List.getElem?_eq_some_iff.1 hat
  rw [HKL.out] at hjl
  have hkey : (L[j]).1 = key := by rw [← hje]; simp [Di.of]
  obtain ⟨b', o', k', i', g', r', s', keys', kids', ka', kc', a', cap', rfl, hbN', hdr, hcs, hnode⟩ := HKI.out.at (j := j) (by rw [HIL.out]; exact hjl)
  have hpj := Di.of_kid hjl hdr
  have hvat : (Di.of L).At key ⟨k', i', g', r', s', keys', kids'⟩ := Di.of_at.2 (by rw [← hkey, ← hpj]; exact List.getElem_mem hjl)
  rw [Nat.mul_comm 7 j] at hcs
  have hbl : b' < N.n := hbN'.1
  have hcc : ∀ p, w1.cell? ⟨b', p, none⟩ = w.cell? ⟨b', p, none⟩ := fun p => hK2.cell (by omega) (by simp)
  obtain ⟨e0, e1, e2, e3, e4, e5, e6⟩ := hcs
  rw [← hcc] at e0 e1 e2 e3 e4 e5 e6
  have hjl2 : (j : Int) < ((Di.of L).kids.len : Int) := by rw [HIL.out]; omega
  have hj0 : (0 : Int) ≤ (j : Int) := Int.natCast_nonneg _
  have hjn : ((j : Int) < 0) = False := by simp
  have HXq := Lib.hid hXr; have HTq := Lib.hid hTr; have HAq := Lib.hid hAr; have HBq := Lib.hid hBr; have HVA := Lib.hid hvat; have HNV := Lib.hid hnode
  obtain ⟨⟨c0, c1, c2, c3, c4, c5, c6⟩, _⟩ := seven hXr
  obtain ⟨t0, t1, t2, t3, t4, t5, t6, t7, t8⟩ := nine hTr
  obtain ⟨⟨a0, a1, a2, a3, a4, a5, a6⟩, p0, p1, p2, p3, p4, p5, p6⟩ := seven hAr
  obtain ⟨⟨b0, b1, b2, b3, b4, b5, b6⟩, q0, q1, q2, q3, q4, q5, q6⟩ := seven hBr
  clear hXr hTr hAr hBr hvat hnode hpj hkey hje hat hmin hin hdr hcc
  go_upto_region 4 with fail
  obtain ⟨W, hW⟩ : ∃ W, W = ((((((w1.setCell ⟨w.heap.size + 1 + 1 + 1, 0, none⟩ (.int .i64 k')).setCell ⟨w.heap.size + 1 + 1 + 1, 1, none⟩ (.int .i64 i')).setCell ⟨w.heap.size + 1 + 1 + 1, 2, none⟩ (.int .i64 g')).setCell ⟨w.heap.size + 1 + 1 + 1, 3, none⟩ (.float .f64 r')).setCell ⟨w.heap.size + 1 + 1 + 1, 4, none⟩ (.string s')).setCell ⟨w.heap.size + 1 + 1 + 1, 5, none⟩ (.slice ka' keys'.length kc')).setCell ⟨w.heap.size + 1 + 1 + 1, 6, none⟩ (.slice a' kids'.len cap') := ⟨_, rfl⟩
  have hbz1 := lt_of_block HBq.out
  have hk1 : Kept [w.heap.size + 1 + 1 + 1] w1 W := by rw [hW]; exact kept7 (Kept.refl _ _) (.inr (by simp)) _ _ _ _ _ _ _
  have hKW : Kept [] w W := by rw [hW]; exact kept7 hK2 (.inl (by omega)) _ _ _ _ _ _ _
  have hXr := (hk1.block w.heap.size (lt_of_block HXq.out) (by simp only [List.mem_singleton]; omega)).trans HXq.out
  have hTr := (hk1.block (w.heap.size + 1) (lt_of_block HTq.out) (by simp only [List.mem_singleton]; omega)).trans HTq.out
  have hAr := (hk1.block (w.heap.size + 1 + 1) (lt_of_block HAq.out) (by simp only [List.mem_singleton]; omega)).trans HAq.out
  have hBr : W.heap[w.heap.size + 1 + 1 + 1]? = some (.cells #[.int .i64 k', .int .i64 i', .int .i64 g', .float .f64 r', .string s', .slice ka' keys'.length kc', .slice a' kids'.len cap'] 26 (0, 0)) := by rw [hW]; exact set7 HBq.out _ _ _ _ _ _ _
  rw [← hW]
  clear hW c0 c1 c2 c3 c4 c5 c6 t0 t1 t2 t3 t4 t5 t6 t7 t8 a0 a1 a2 a3 a4 a5 a6 p0 p1 p2 p3 p4 p5 p6 b0 b1 b2 b3 b4 b5 b6 q0 q1 q2 q3 q4 q5 q6 e0 e1 e2 e3 e4 e5 e6
  have HXr := Lib.hid hXr; have HTr := Lib.hid hTr; have HAr := Lib.hid hAr; have HBr := Lib.hid hBr
  obtain ⟨⟨c0, c1, c2, c3, c4, c5, c6⟩, _⟩ := seven hXr
  obtain ⟨t0, t1, t2, t3, t4, t5, t6, t7, t8⟩ := nine hTr
  obtain ⟨⟨a0, a1, a2, a3, a4, a5, a6⟩, p0, p1, p2, p3, p4, p5, p6⟩ := seven hAr
  obtain ⟨⟨b0, b1, b2, b3, b4, b5, b6⟩, q0, q1, q2, q3, q4, q5, q6⟩ := seven hBr
  clear hXr hTr hAr hBr
  have hbz := lt_of_block HBr.out
  obtain ⟨o1, o2⟩ := hop
  have hop1 := HOP.out; clear HOP
  have z0 : (op == 0) = false := beq_eq_false_iff_ne.2 (by omega)
  have z1 : (op == 1) = false := beq_eq_false_iff_ne.2 (by omega)
  have z2 : (op == 2) = false := beq_eq_false_iff_ne.2 (by omega)
  have z3 : (op == 3) = false := beq_eq_false_iff_ne.2 (by omega)
  have z4 : (op == 4) = false := beq_eq_false_iff_ne.2 (by omega)
  have z5 : (op == 5) = false := beq_eq_false_iff_ne.2 (by omega)
  have z6 : (op == 6) = false := beq_eq_false_iff_ne.2 (by omega)
  clear hop1
  go_wp2_with fail
  have hoff1 : ∀ n : Nat, (⟨w.heap.size + 1 + 1, 0, none⟩ : Addr).add n = ⟨w.heap.size + 1 + 1, n, none⟩ := fun n => addr0 _ _
  have hoff2 : ∀ n : Nat, (⟨w.heap.size + 1 + 1 + 1, 0, none⟩ : Addr).add n = ⟨w.heap.size + 1 + 1 + 1, n, none⟩ := fun n => addr0 _ _
  refine bodyPost_ret (v := .tuple #[.agg #[.int .i64 8, .int .i64 i, .int .i64 g, .float .f64 r, .string s, .slice ka (Di.of L).keys.length kc, .slice (some ⟨b', o', none⟩) (Di.of L).kids.len cap], .bool false, (.agg #[.int .i64 0,.int .i64 0,.int .i64 0,.float .f64 0,.string ⟨#[]⟩,.slice none 0 0,.slice none 0 0]), .bool false]) (by simp [results, Tryz.results17, go_sem, hoff1, hoff2, a0, a1, a2, a3, a4, a5, a6, b0, b1, b2, b3, b4, b5, b6]) rfl ?_
  have hKe := kept7 (b := w.heap.size + 1 + 1 + 1) (kept7 (b := w.heap.size + 1 + 1) hKW (.inl (by omega)) (.int .i64 8) (.int .i64 i) (.int .i64 g) (.float .f64 r) (.string s) (.slice ka (Di.of L).keys.length kc) (.slice (some ⟨b', o', none⟩) (Di.of L).kids.len cap)) (.inl (by omega)) (.int .i64 0) (.int .i64 0) (.int .i64 0) (.float .f64 0) (.string ⟨#[]⟩) (.slice none 0 0) (.slice none 0 0)
  exact DoE.no (d' := Di.of L) (v := Nd.zero) hKe
set_option maxRecDepth 100000 in
set_option maxHeartbeats 8000000 in
theorem do_inc1 (L : List (ByteArray × Nd)) (op : Int) (key : ByteArray) (y : Nd) (i g : Int) (r : Nat) (s : ByteArray) (N : Bd) (ka : Option Addr) (kc : Nat) (a : Option Addr) (cap : Nat) (kb : Option Addr) (kd : Nat) (ab : Option Addr) (capb : Nat) (w : World) (hd : DiOk (Di.of L)) (hz : Z4 i g r s) (hn : Node (LtB N) w 8 i g r s (Di.of L).keys (Di.of L).kids ka kc a cap)
    (hy : Node (LtB N) w y.k y.i y.g y.r y.s y.keys y.kids kb kd ab capb) (hN : N.n ≤ w.heap.size) (hky : Simp key) (hyo : NdOk y) (hop : I64 op) (_hlb : L.length ≤ 1000000000000) (hop1 : op = 6) (hin : key ∈ (Di.of L).keys) (hk6 : ∀ v, (Di.of L).At key v → v.k ≠ 2) :
    Calls Tryz.prog 17 #[.agg #[.int .i64 8, .int .i64 i, .int .i64 g, .float .f64 r, .string s, .slice ka (Di.of L).keys.length kc, .slice a (Di.of L).kids.len cap], .agg #[.int .i64 op, .string key, .int .i64 y.k, .int .i64 y.i, .int .i64 y.g, .float .f64 y.r, .string y.s, .slice kb y.keys.length kd, .slice ab y.kids.len capb]] w (DoE N (Di.of L) op key y w) := by
  have HOP := Lib.hid hop1; clear hop1
  have HK6 := Lib.hid hk6; clear hk6
  obtain ⟨⟨⟨k1, k2⟩, ⟨i1, i2⟩, ⟨g1, g2⟩, r1, s1⟩, hkeys, hkids⟩ := hn
  have hkl : (Di.of L).keys.length = L.length := by simp [Di.of]
  have hil : (Di.of L).kids.len = L.length := by simp [Di.of, F.of_len]
  obtain ⟨w0, hw0⟩ : ∃ w0, w0 = (((w.alloc (.cells #[.int .i64 8, .int .i64 i, .int .i64 g, .float .f64 r, .string s, .slice ka (Di.of L).keys.length kc, .slice a (Di.of L).kids.len cap] 26)).alloc (.cells #[.int .i64 op, .string key, .int .i64 y.k, .int .i64 y.i, .int .i64 y.g, .float .f64 y.r, .string y.s, .slice kb y.keys.length kd, .slice ab y.kids.len capb] 45)).alloc (.cells #[.int .i64 0, .int .i64 0, .int .i64 0, .float .f64 0, .string ⟨#[]⟩, .slice none 0 0, .slice none 0 0] 26)).alloc (.cells #[.int .i64 0, .int .i64 0, .int .i64 0, .float .f64 0, .string ⟨#[]⟩, .slice none 0 0, .slice none 0 0] 26) := ⟨_, rfl⟩
  have hK0 : Kept [] w w0 := by rw [hw0]; exact ((((Kept.refl [] w).alloc _).alloc _).alloc _).alloc _
  have hX : w0.heap[w.heap.size]? = some (.cells #[.int .i64 8, .int .i64 i, .int .i64 g, .float .f64 r, .string s, .slice ka (Di.of L).keys.length kc, .slice a (Di.of L).kids.len cap] 26 (0, 0)) := by rw [hw0, heap_lt (by simp; omega), heap_lt (by simp; omega), heap_lt (by simp)]; exact heap_at rfl
  have hT : w0.heap[w.heap.size + 1]? = some (.cells #[.int .i64 op, .string key, .int .i64 y.k, .int .i64 y.i, .int .i64 y.g, .float .f64 y.r, .string y.s, .slice kb y.keys.length kd, .slice ab y.kids.len capb] 45 (0, 0)) := by rw [hw0, heap_lt (by simp), heap_lt (by simp)]; exact heap_at (by simp)
  have hA : w0.heap[w.heap.size + 1 + 1]? = some (.cells #[.int .i64 0, .int .i64 0, .int .i64 0, .float .f64 0, .string ⟨#[]⟩, .slice none 0 0, .slice none 0 0] 26 (0, 0)) := by rw [hw0, heap_lt (by simp)]; exact heap_at (by simp)
  have hB : w0.heap[w.heap.size + 1 + 1 + 1]? = some (.cells #[.int .i64 0, .int .i64 0, .int .i64 0, .float .f64 0, .string ⟨#[]⟩, .slice none 0 0, .slice none 0 0] 26 (0, 0)) := by rw [hw0]; exact heap_at (by simp)
  have hkeys0 := hkeys.kept hK0 (ltkB hN (by simp))
  have hkids0 := hkids.kept hK0 (ltkB hN (by simp))
  have hfind := dictfind key 8 i g r s (Di.of L).keys (Di.of L).kids N ka kc a cap w0 ⟨⟨⟨k1, k2⟩, ⟨i1, i2⟩, ⟨g1, g2⟩, r1, s1⟩, hkeys0, hkids0⟩ (Nat.le_trans hN hK0.size)
  have hfld : Fld 8 i g r s := ⟨⟨k1, k2⟩, ⟨i1, i2⟩, ⟨g1, g2⟩, r1, s1⟩
  obtain ⟨⟨c0, c1, c2, c3, c4, c5, c6⟩, _⟩ := seven hX
  obtain ⟨t0, t1, t2, t3, t4, t5, t6, t7, t8⟩ := nine hT
  have HX := Lib.hid hX; have HT := Lib.hid hT; have HA := Lib.hid hA; have HB := Lib.hid hB; have HKE := Lib.hid hkeys; have HKI := Lib.hid hkids; have HKI0 := Lib.hid hkids0; have HY := Lib.hid hy; have HF := Lib.hid hfind; have HFL := Lib.hid hfld; have HD := Lib.hid hd; have HKY := Lib.hid hky; have HYO := Lib.hid hyo; have HZ4 := Lib.hid hz; have HKL := Lib.hid hkl; have HIL := Lib.hid hil
  clear hX hT hA hB hkeys hkids hkeys0 hkids0 hy hfind hfld hd hky hyo hz hkl hil
  go_enter Tryz.func17, Tryz.ntmps17
  go_upto_region 1 with fail
  rw [← hw0]
  clear hw0
  go_wp2_with fail
  refine HF.out.mono ?_
  rintro e w1 ⟨hK1, p, rfl, hp⟩
  have hK2 : Kept [] w w1 := Kept.trans hK0 hK1 (by simp) (by simp)
  have hXr := (hK1.block w.heap.size (lt_of_block HX.out) (by simp)).trans HX.out
  have hTr := (hK1.block (w.heap.size + 1) (lt_of_block HT.out) (by simp)).trans HT.out
  have hAr := (hK1.block (w.heap.size + 1 + 1) (lt_of_block HA.out) (by simp)).trans HA.out
  have hBr := (hK1.block (w.heap.size + 1 + 1 + 1) (lt_of_block HB.out) (by simp)).trans HB.out
  clear c0 c1 c2 c3 c4 c5 c6 t0 t1 t2 t3 t4 t5 t6 t7 t8
  rcases hp with ⟨rfl, hno⟩ | ⟨j, rfl, hat, hmin⟩
  case' inl => exact absurd hin hno
  obtain ⟨hjl, hje⟩ := List.getElem?_eq_some_iff.1 hat
  rw [HKL.out] at hjl
  have hkey : (L[j]).1 = key := by rw [← hje]; simp [Di.of]
  obtain ⟨b', o', k', i', g', r', s', keys', kids', ka', kc', a', cap', rfl, hbN', hdr, hcs, hnode⟩ := HKI.out.at (j := j) (by rw [HIL.out]; exact hjl)
  have hpj := Di.of_kid hjl hdr
  have hvat : (Di.of L).At key ⟨k', i', g', r', s', keys', kids'⟩ := Di.of_at.2 (by rw [← hkey, ← hpj]; exact List.getElem_mem hjl)
  rw [Nat.mul_comm 7 j] at hcs
  have hbl : b' < N.n := hbN'.1
  have hcc : ∀ p, w1.cell? ⟨b', p, none⟩ = w.cell? ⟨b', p, none⟩ := fun p => hK2.cell (by omega) (by simp)
  obtain ⟨e0, e1, e2, e3, e4, e5, e6⟩ := hcs
  rw [← hcc] at e0 e1 e2 e3 e4 e5 e6
  have hjl2 : (j : Int) < ((Di.of L).kids.len : Int) := by rw [HIL.out]; omega
  have hj0 : (0 : Int) ≤ (j : Int) := Int.natCast_nonneg _
  have hjn : ((j : Int) < 0) = False := by simp
  have HXq := Lib.hid hXr; have HTq := Lib.hid hTr; have HAq := Lib.hid hAr; have HBq := Lib.hid hBr; have HVA := Lib.hid hvat; have HNV := Lib.hid hnode
  obtain ⟨⟨c0, c1, c2, c3, c4, c5, c6⟩, _⟩ := seven hXr
  obtain ⟨t0, t1, t2, t3, t4, t5, t6, t7, t8⟩ := nine hTr
  obtain ⟨⟨a0, a1, a2, a3, a4, a5, a6⟩, p0, p1, p2, p3, p4, p5, p6⟩ := seven hAr
  obtain ⟨⟨b0, b1, b2, b3, b4, b5, b6⟩, q0, q1, q2, q3, q4, q5, q6⟩ := seven hBr
  clear hXr hTr hAr hBr hvat hnode hpj hkey hje hat hmin hin hdr hcc
  go_upto_region 4 with fail
  obtain ⟨W, hW⟩ : ∃ W, W = ((((((w1.setCell ⟨w.heap.size + 1 + 1 + 1, 0, none⟩ (.int .i64 k')).setCell ⟨w.heap.size + 1 + 1 + 1, 1, none⟩ (.int .i64 i')).setCell ⟨w.heap.size + 1 + 1 + 1, 2, none⟩ (.int .i64 g')).setCell ⟨w.heap.size + 1 + 1 + 1, 3, none⟩ (.float .f64 r')).setCell ⟨w.heap.size + 1 + 1 + 1, 4, none⟩ (.string s')).setCell ⟨w.heap.size + 1 + 1 + 1, 5, none⟩ (.slice ka' keys'.length kc')).setCell ⟨w.heap.size + 1 + 1 + 1, 6, none⟩ (.slice a' kids'.len cap') := ⟨_, rfl⟩
  have hbz1 := lt_of_block HBq.out
  have hk1 : Kept [w.heap.size + 1 + 1 + 1] w1 W := by rw [hW]; exact kept7 (Kept.refl _ _) (.inr (by simp)) _ _ _ _ _ _ _
  have hKW : Kept [] w W := by rw [hW]; exact kept7 hK2 (.inl (by omega)) _ _ _ _ _ _ _
  have hXr := (hk1.block w.heap.size (lt_of_block HXq.out) (by simp only [List.mem_singleton]; omega)).trans HXq.out
  have hTr := (hk1.block (w.heap.size + 1) (lt_of_block HTq.out) (by simp only [List.mem_singleton]; omega)).trans HTq.out
  have hAr := (hk1.block (w.heap.size + 1 + 1) (lt_of_block HAq.out) (by simp only [List.mem_singleton]; omega)).trans HAq.out
  have hBr : W.heap[w.heap.size + 1 + 1 + 1]? = some (.cells #[.int .i64 k', .int .i64 i', .int .i64 g', .float .f64 r', .string s', .slice ka' keys'.length kc', .slice a' kids'.len cap'] 26 (0, 0)) := by rw [hW]; exact set7 HBq.out _ _ _ _ _ _ _
  rw [← hW]
  clear hW c0 c1 c2 c3 c4 c5 c6 t0 t1 t2 t3 t4 t5 t6 t7 t8 a0 a1 a2 a3 a4 a5 a6 p0 p1 p2 p3 p4 p5 p6 b0 b1 b2 b3 b4 b5 b6 q0 q1 q2 q3 q4 q5 q6 e0 e1 e2 e3 e4 e5 e6
  have HXr := Lib.hid hXr; have HTr := Lib.hid hTr; have HAr := Lib.hid hAr; have HBr := Lib.hid hBr
  obtain ⟨⟨c0, c1, c2, c3, c4, c5, c6⟩, _⟩ := seven hXr
  obtain ⟨t0, t1, t2, t3, t4, t5, t6, t7, t8⟩ := nine hTr
  obtain ⟨⟨a0, a1, a2, a3, a4, a5, a6⟩, p0, p1, p2, p3, p4, p5, p6⟩ := seven hAr
  obtain ⟨⟨b0, b1, b2, b3, b4, b5, b6⟩, q0, q1, q2, q3, q4, q5, q6⟩ := seven hBr
  clear hXr hTr hAr hBr
  have hbz := lt_of_block HBr.out
  obtain ⟨o1, o2⟩ := hop
  have hop1 := HOP.out; clear HOP
  subst hop1
  have hk2 := HK6.out _ HVA.out
  have zk2 : (k' == 2) = false := beq_eq_false_iff_ne.2 hk2
  clear hk2
  go_wp2_with fail
  have hoff1 : ∀ n : Nat, (⟨w.heap.size + 1 + 1, 0, none⟩ : Addr).add n = ⟨w.heap.size + 1 + 1, n, none⟩ := fun n => addr0 _ _
  have hoff2 : ∀ n : Nat, (⟨w.heap.size + 1 + 1 + 1, 0, none⟩ : Addr).add n = ⟨w.heap.size + 1 + 1 + 1, n, none⟩ := fun n => addr0 _ _
  refine bodyPost_ret (v := .tuple #[.agg #[.int .i64 8, .int .i64 i, .int .i64 g, .float .f64 r, .string s, .slice ka (Di.of L).keys.length kc, .slice (some ⟨b', o', none⟩) (Di.of L).kids.len cap], .bool false, (.agg #[.int .i64 0,.int .i64 0,.int .i64 0,.float .f64 0,.string ⟨#[]⟩,.slice none 0 0,.slice none 0 0]), .bool true]) (by simp [results, Tryz.results17, go_sem, hoff1, hoff2, a0, a1, a2, a3, a4, a5, a6, b0, b1, b2, b3, b4, b5, b6]) rfl ?_
  have hKe := kept7 (b := w.heap.size + 1 + 1 + 1) (kept7 (b := w.heap.size + 1 + 1) hKW (.inl (by omega)) (.int .i64 8) (.int .i64 i) (.int .i64 g) (.float .f64 r) (.string s) (.slice ka (Di.of L).keys.length kc) (.slice (some ⟨b', o', none⟩) (Di.of L).kids.len cap)) (.inl (by omega)) (.int .i64 0) (.int .i64 0) (.int .i64 0) (.float .f64 0) (.string ⟨#[]⟩) (.slice none 0 0) (.slice none 0 0)
  exact ⟨hKe, i, g, r, s, Di.of L, ka, kc, (some ⟨b', o', none⟩), cap, false, Nd.zero, none, 0, none, 0, true, rfl, fun _ => ⟨HZ4.out, lt_kept hKe hN ⟨HFL.out, HKE.out, HKI.out⟩, zeroNode, .incNo rfl fun v hv => by rw [HD.out.one hv HVA.out]; exact beq_eq_false_iff_ne.1 zk2⟩⟩
end Go.Proofs.YtfkecmlmnhbmoaaGreatDoor
