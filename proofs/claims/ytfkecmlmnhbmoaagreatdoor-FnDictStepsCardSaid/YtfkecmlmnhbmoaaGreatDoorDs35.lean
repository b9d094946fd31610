import Derived.Test.YtfkecmlmnhbmoaaGreatDoorDs34
import Derived.OrdersHeld
import Derived.StillTail
namespace Go.Proofs.YtfkecmlmnhbmoaaGreatDoor
open Go.RowKit Go.Maps
section
variable {P : Program} {ops : Array Oper} {Q : Exit → Act → World → Prop} {md : Region.Mode} {C D : World → Prop} {st : Nat}
/-- What is held of the world in a statement that draws its order: C throughout, D till its operation st has come up. -/
def SxT (C D : World → Prop) (st : Nat) (l : Array Bool) (w : World) : Prop := C w ∧ (l.getD st true = false → D w)
/-- Whatever order is picked, and that holds behind each operation. -/
def wpT (P : Program) (md : Region.Mode) (ops : Array Oper) (Q : Exit → Act → World → Prop) (C D : World → Prop) (st : Nat) : Nat → Array Bool → Act → World → Prop
  | 0, l, a, w => Region.ready md ops l = [] ∧ Q .normal a w
  | fuel + 1, l, a, w => (Region.ready md ops l = [] → Q .normal a w) ∧ ∀ i ∈ Region.ready md ops l, wpOp P ops Q i (fun a' w' => SxT C D st (l.setIfInBounds i true) w' ∧ wpT P md ops Q C D st fuel (l.setIfInBounds i true) a' w') a w
theorem wpAny_of_T : ∀ (fuel : Nat) (l : Array Bool) (a : Act) (w : World), wpT P md ops Q C D st fuel l a w → wpAny P md ops Q fuel l a w
  | 0, _, _, _, h => h
  | fuel + 1, _, _, _, h => ⟨h.1, fun i hi => wpOp_mono (fun a' w' h' => wpAny_of_T fuel _ a' w' h'.2) (h.2 i hi)⟩
theorem wpT_first {E : World → Prop} {i : Nat} {oi : Oper} {v : Value} (hi : ops[i]? = some oi) (hne : i ≠ st) (hsel : ∀ (j : Nat) (o : Oper) cs b, ops[j]? = some o → o.op ≠ .select cs b)
    (hE : ∀ (l : Array Bool) (W : World), l.getD i true = false → (Region.waitsFor md ops st i = true → l.getD st true = false) → SxT C D st l W → E W)
    (hQ : ∀ c a w, Q (.panic c) (a.put oi.dst v) w → Q (.panic c) a w) : ∀ (fuel : Nat) (l : Array Bool) (a : Act) (w : World), (Region.waitsFor md ops st i = true → l.getD st true = false) →
      (∀ j oj, ops[j]? = some oj → j ≠ i → l.getD j true = false → (∀ e ∈ oj.after, Region.binds md e = true → e.on ≠ i) → oi.apart ops oj = true) →
      i ∈ Region.ready md ops l → YieldsIf P ops E oi v a → SxT C D st l w → wpT P md ops Q C D st fuel (l.setIfInBounds i true) (a.put oi.dst v) w → wpT P md ops Q C D st (fuel + 1) l a w := by
  have hset : ∀ (l : Array Bool) W, SxT C D st (l.setIfInBounds i true) W → SxT C D st l W := fun l W h => ⟨h.1, fun h2 => h.2 (by rw [getD_set_ne true hne]; exact h2)⟩
  have hset' : ∀ (l : Array Bool) W, SxT C D st l W → SxT C D st (l.setIfInBounds i true) W := fun l W h => ⟨h.1, fun h2 => h.2 (by rw [getD_set_ne true hne] at h2; exact h2)⟩
  intro fuel
  induction fuel with
  | zero =>
    intro l a w hw _ hr hy hS H
    have hE0 := hE l w (mem_ready.1 hr).1 hw hS
    refine ⟨fun h => (by rw [h] at hr; cases hr), fun j hj => ?_⟩
    by_cases hji : j = i
    · subst hji; exact hy.wpOp hi hE0 ⟨hset' l w hS, H⟩
    · have := ready_mono hj hji
      rw [H.1] at this
      cases this
  | succ fuel ih =>
    intro l a w hw hfree hr hy hS H
    have hun := (mem_ready.1 hr).1
    have hE0 := hE l w hun hw hS
    refine ⟨fun h => (by rw [h] at hr; cases hr), fun j hj => ?_⟩
    by_cases hji : j = i
    · subst hji; exact hy.wpOp hi hE0 ⟨hset' l w hS, H⟩
    · have h1 := H.2 j (ready_mono hj hji)
      obtain ⟨hjun, oj, hoj, hall⟩ := mem_ready.1 hj
      have hnot : ∀ e ∈ oj.after, Region.binds md e = true → e.on ≠ i := fun e he hb heq => by
        have h5 := hall e he hb
        rw [heq, getD_both hun] at h5
        cases h5
      have hw2 : Region.waitsFor md ops st i = true → (l.setIfInBounds j true).getD st true = false := fun h => by
        by_cases hjs : j = st
        · subst hjs
          obtain ⟨o2, ho2, e, he, hb, hon⟩ := Region.waitsFor_spec h
          have : o2 = oj := Option.some.inj (ho2.symm.trans hoj)
          subst this
          exact absurd hon (hnot e he hb)
        · rw [getD_set_ne true hjs]; exact hw h
      have h2 := wpOp_putIf hoj (hfree j oj hoj hji hjun hnot) (fun cs b => hsel i oi cs b hi) (fun cs b => hsel j oj cs b hoj) hQ hy h1
      have hfree' : ∀ k ok, ops[k]? = some ok → k ≠ i → (l.setIfInBounds j true).getD k true = false → (∀ e ∈ ok.after, Region.binds md e = true → e.on ≠ i) → oi.apart ops ok = true := fun k ok hk hki hun2 hno => by
        refine hfree k ok hk hki ?_ hno
        by_cases hjk : j = k
        · subst hjk; exact hjun
        · rw [getD_set_ne true hjk] at hun2; exact hun2
      refine wpOp_mono (fun a' w' h3 => ?_) h2
      obtain ⟨h4, h5, h6⟩ := h3
      rw [Array.setIfInBounds_comm _ _ (Ne.symm hji)] at h5 h6
      exact ⟨hset _ _ h5, ih (l.setIfInBounds j true) a' w' hw2 hfree' (ready_mono hr (Ne.symm hji)) h4 (hset _ _ h5) h6⟩
/-- An operation is taken first that reads what holds throughout. -/
theorem wpT_takeC {i : Nat} {oi : Oper} {v : Value} {fuel : Nat} {l : Array Bool} {a : Act} {w : World} (hi : ops[i]? = some oi) (hne : (i != st) = true) (hs : Region.noSelect ops = true) (hf : Region.free md ops l i = true) (hr : (Region.ready md ops l).contains i = true)
    (hw : (!Region.waitsFor md ops st i || !l.getD st true) = true) (hQ : ∀ c a w, Q (.panic c) (a.put oi.dst v) w → Q (.panic c) a w) (hy : YieldsIf P ops C oi v a) (hS : SxT C D st l w)
    (h : wpT P md ops Q C D st fuel (l.setIfInBounds i true) (a.put oi.dst v) w) : wpT P md ops Q C D st (fuel + 1) l a w :=
  wpT_first hi (by simpa using hne) (Region.noSelect_spec hs) (fun _ _ _ _ h => h.1) hQ fuel l a w (fun h => by rw [h] at hw; simpa using hw) (Region.free_spec hi hf) (by simpa using hr) hy hS h
/-- An operation is taken first that st waits for. -/
theorem wpT_takeD {i : Nat} {oi : Oper} {v : Value} {fuel : Nat} {l : Array Bool} {a : Act} {w : World} (hi : ops[i]? = some oi) (hne : (i != st) = true) (hs : Region.noSelect ops = true) (hf : Region.free md ops l i = true) (hr : (Region.ready md ops l).contains i = true)
    (hw : (Region.waitsFor md ops st i && !l.getD st true) = true) (hQ : ∀ c a w, Q (.panic c) (a.put oi.dst v) w → Q (.panic c) a w) (hy : YieldsIf P ops (fun W => C W ∧ D W) oi v a) (hS : SxT C D st l w)
    (h : wpT P md ops Q C D st fuel (l.setIfInBounds i true) (a.put oi.dst v) w) : wpT P md ops Q C D st (fuel + 1) l a w := by
  have hw2 : Region.waitsFor md ops st i = true ∧ l.getD st true = false := by simpa using hw
  exact wpT_first hi (by simpa using hne) (Region.noSelect_spec hs) (fun l' W _ h2 h => ⟨h.1, h.2 (h2 hw2.1)⟩) hQ fuel l a w (fun _ => hw2.2) (Region.free_spec hi hf) (by simpa using hr) hy hS h
theorem wpT_done {l : Array Bool} {a : Act} {w : World} (hr : Region.ready md ops l = []) (h : Q .normal a w) : ∀ fuel, wpT P md ops Q C D st fuel l a w
  | 0 => ⟨hr, h⟩
  | _ + 1 => ⟨fun _ => h, by rw [hr]; simp⟩
/-- Each of the operations rs comes up next. -/
def AllT (P : Program) (md : Region.Mode) (ops : Array Oper) (Q : Exit → Act → World → Prop) (C D : World → Prop) (st : Nat) (fuel : Nat) (l : Array Bool) (a : Act) (w : World) (rs : List Nat) : Prop :=
  ∀ i ∈ rs, wpOp P ops Q i (fun a' w' => SxT C D st (l.setIfInBounds i true) w' ∧ wpT P md ops Q C D st fuel (l.setIfInBounds i true) a' w') a w
theorem AllT.nil {fuel : Nat} {l : Array Bool} {a : Act} {w : World} : AllT P md ops Q C D st fuel l a w [] := fun _ h => by cases h
/-- A hypothesis that no tactic looks into. -/
def Closed' (p : Prop) : Prop := p
theorem Closed'.out {p : Prop} (h : Closed' p) : p := h
theorem AllT.cons {fuel : Nat} {l : Array Bool} {a : Act} {w : World} {i : Nat} {o : Oper} {rs : List Nat} (ho : ops[i]? = some o)
    (h : ∀ K' : Act → World → Prop, Closed' (∀ a w, SxT C D st (l.setIfInBounds i true) w → (SxT C D st (l.setIfInBounds i true) w → wpT P md ops Q C D st fuel (l.setIfInBounds i true) a w) → K' a w) → if Region.wanted o (yielded ops a.tmps) = true then Oper.wp P o a w K' Q else K' (a.put o.dst undef) w)
    (hs : AllT P md ops Q C D st fuel l a w rs) : AllT P md ops Q C D st fuel l a w (i :: rs) := fun j hj => by
  rcases List.mem_cons.1 hj with rfl | hj
  · exact wpOp_step ho fun K' hK => h K' fun a w hS hW => hK a w ⟨hS, hW hS⟩
  · exact hs j hj
theorem wpT_ready {rs : List Nat} {fuel : Nat} {l : Array Bool} {a : Act} {w : World} (hr : Region.ready md ops l = rs) (hne : rs ≠ []) (h : AllT P md ops Q C D st fuel l a w rs) : wpT P md ops Q C D st (fuel + 1) l a w :=
  ⟨fun h0 => absurd (hr ▸ h0) hne, hr ▸ h⟩
theorem wp_region_T {id : Nat} {a : Act} {w : World} (hm : P.follows .mixedOrders = true) (hS : SxT C D st (Array.replicate ops.size false) w.drew) (h : SxT C D st (Array.replicate ops.size false) w.drew → wpT P .any ops Q C D st ops.size (Array.replicate ops.size false) a w.drew) : (Code.region id ops true).wp P Q a w :=
  wp_region_any hm (wpAny_of_T _ _ _ _ (h hS))
end
end Go.Proofs.YtfkecmlmnhbmoaaGreatDoor
namespace Go.Proofs.YtfkecmlmnhbmoaaGreatDoor
open Go.RowKit Go.Maps
/-- A dictionary that is handed back. -/
def DxE (N : Bd) (R : Di → Prop) (w : World) (e : Ending) (w' : World) : Prop := Kept [] w w' ∧ ∃ (d' : Di) (ka : Option Addr) (kc : Nat) (a : Option Addr) (cap : Nat), e = .returned (.agg #[.int .i64 8, .int .i64 0, .int .i64 0, .float .f64 0, .string ⟨#[]⟩, .slice ka d'.keys.length kc, .slice a d'.kids.len cap]) ∧
  Node (FrB N w.heap.size w'.heap.size) w' 8 0 0 0 ⟨#[]⟩ d'.keys d'.kids ka kc a cap ∧ R d'
structure DdL (L : List (ByteArray × Nd)) (key : ByteArray) (O : Nat) (M : Bd) (w0 : World) (v12 : Value) (wr : World) : Prop where
  ex : ∃ (j : Nat) (S : List (ByteArray × Nd)) (vk vi : Value), v12 = .int .i64 j ∧ j ≤ L.length ∧ Kept [] w0 wr ∧ wr.heap[O]? = some (.cells #[.int .i64 8, .int .i64 0, .int .i64 0, .float .f64 0, .string ⟨#[]⟩, vk, vi] 26 (0, 0)) ∧ OutR (O + 1) M wr vk vi S ∧ DropI key (L.take j) S
theorem Srt.take_lt {L : List (ByteArray × Nd)} (h : Srt L) {j : Nat} (hj : j < L.length) : ∀ q ∈ L.take j, q.1.data.toList < (L[j]).1.data.toList := fun q hq => by
  obtain ⟨i, hi, rfl⟩ := List.getElem_of_mem hq
  have hi2 : i < j ∧ i < L.length := by rw [List.length_take] at hi; omega
  rw [List.getElem_take]
  exact List.pairwise_iff_getElem.1 h i j hi2.2 hj hi2.1
theorem take_more {L : List (ByteArray × Nd)} {j : Nat} (hj : j < L.length) : L.take (j + 1) = L.take j ++ [L[j]] := (List.take_append_getElem hj).symm
theorem Di.of_kid {L : List (ByteArray × Nd)} {j : Nat} (hj : j < L.length) {k i g : Int} {r : Nat} {s : ByteArray} {keys : List ByteArray} {kids rest : F} (hd : (Di.of L).kids.drop j = .cons k i g r s keys kids rest) : L[j] = ((L[j]).1, (⟨k, i, g, r, s, keys, kids⟩ : Nd)) := by
  have h1 := F.drop_nd hd
  simp only [Di.of, F.of_nd, List.getElem?_map, List.getElem?_eq_getElem hj, Option.map_some, Option.some.injEq] at h1
  exact Prod.ext rfl h1
theorem OutR.own {B : Nat} {M : Bd} {w : World} {vk vi : Value} {S : List (ByteArray × Nd)} (h : OutR B M w vk vi S) {b : Nat} (hb : vk.ownBlock = some b ∨ vi.ownBlock = some b) : B ≤ b ∧ b < w.heap.size := by
  obtain ⟨hkr, ⟨cs, hir, _⟩, _, _⟩ := h
  rcases hb with hb | hb
  · exact ⟨(ownsRow_lt hkr hb).2, (ownsRow_lt hkr hb).1⟩
  · exact ⟨(ownsRow_lt hir hb).2, (ownsRow_lt hir hb).1⟩
theorem set56 {w : World} {O t : Nat} {x0 x1 x2 x3 x4 x5 x6 : Value} (h : w.heap[O]? = some (.cells #[x0, x1, x2, x3, x4, x5, x6] t (0, 0))) (u v : Value) : ((w.setCell ⟨O, 5, none⟩ u).setCell ⟨O, 6, none⟩ v).heap[O]? = some (.cells #[x0, x1, x2, x3, x4, u, v] t (0, 0)) := by
  simp [World.setCell, Array.getElem?_modify, h]
theorem own_form {w : World} {B E s n : Nat} {v : Value} {xs : List Value} (h : w.ownsRow B E s v n xs) : ∃ a c, v = .slice a n c := by
  rcases h.2 with ⟨rfl, h0⟩ | ⟨g, cap, cur, rfl, _⟩
  · exact ⟨none, 0, by rw [h0]⟩
  · exact ⟨_, cap, rfl⟩
/-- Behind a statement that appends to both rows and stores them. -/
theorem put_round {O : Nat} {M : Bd} {w0 wr w9 W : World} {vk vi vk' vi' : Value} {S : List (ByteArray × Nd)} {cs : List Value} {key : ByteArray} {y : Nd} {ka : Option Addr} {kc : Nat} {a : Option Addr} {cap : Nat} {bk bi : Option Nat} {x0 x1 x2 x3 x4 x5 x6 : Value}
    (hst : Rg 9 wr w9 vk.ownBlock vi.ownBlock (O + 1) vk' vi' (S.length + 1) ((S.map fun p => .string p.1) ++ [.string key]) (S.length + 1) (cs ++ [.int .i64 y.k, .int .i64 y.i, .int .i64 y.g, .float .f64 y.r, .string y.s, .slice ka y.keys.length kc, .slice a y.kids.len cap]) (.string key) [.int .i64 y.k, .int .i64 y.i, .int .i64 y.g, .float .f64 y.r, .string y.s, .slice ka y.keys.length kc, .slice a y.kids.len cap] bk bi)
    (hW : W = (w9.setCell ⟨O, 5, none⟩ vk').setCell ⟨O, 6, none⟩ vi') (hO : wr.heap[O]? = some (.cells #[x0, x1, x2, x3, x4, x5, x6] 26 (0, 0))) (h0 : w0.heap.size = O) (hM0 : M.n ≤ O) (hK : Kept [] w0 wr) (hown : ∀ b, vk.ownBlock = some b ∨ vi.ownBlock = some b → O + 1 ≤ b)
    (hf : Flat (LtB M) wr (F.of (S.map Prod.snd)) cs) (hy : Node (LtB M) wr y.k y.i y.g y.r y.s y.keys y.kids ka kc a cap) (hk : key.size ≤ 140737488351232) (hsz : ∀ p ∈ S, p.1.size ≤ 140737488351232) :
    Kept [] w0 W ∧ W.heap[O]? = some (.cells #[x0, x1, x2, x3, x4, vk', vi'] 26 (0, 0)) ∧ OutR (O + 1) M W vk' vi' (S ++ [(key, y)]) := by
  have hin : ∀ x ∈ vk.ownBlock.toList ++ vi.ownBlock.toList, O + 1 ≤ x := fun x hx => hown x (by simpa using hx)
  have hM : M.n ≤ wr.heap.size := by have := hK.size; omega
  have hO9 : w9.heap[O]? = some (.cells #[x0, x1, x2, x3, x4, x5, x6] 26 (0, 0)) := (hst.keep.block O (lt_of_block hO) fun hm => by have := hin _ hm; omega).trans hO
  have hk9 : Kept [] w0 w9 := Kept.trans hK hst.keep (by simp) fun x hx hl => by have := hin _ hx; omega
  have hK2 : Kept [O] w9 W := by rw [hW]; exact ((Kept.refl [O] w9).setCell (.inr (by simp)) _).setCell (.inr (by simp)) _
  have ho := OutR.more (B := O + 1) rfl hst hf hy hk hsz hM (fun b hb => by have := hown b hb; omega)
  have hxO : ∀ x ∈ [O], x = O := fun x hx => by simpa using hx
  refine ⟨Kept.trans hk9 hK2 (by simp) (fun x hx hl => by have := hxO x hx; omega), by rw [hW]; exact set56 hO9 _ _, ho.kept hK2 (by have := hk9.size; omega) fun x hx => ?_⟩
  have := hxO x hx
  subst this
  refine ⟨by omega, fun h => ?_, fun h => ?_⟩
  · have := ho.own (.inl h); omega
  · have := ho.own (.inr h); omega
set_option maxRecDepth 100000 in
set_option maxHeartbeats 4000000 in
theorem dictdrop (L : List (ByteArray × Nd)) (key : ByteArray) (i g : Int) (r : Nat) (s : ByteArray) (N : Bd) (ka : Option Addr) (kc : Nat) (a : Option Addr) (cap : Nat) (w : World) (hd : DiOk (Di.of L)) (hn : Node (LtB N) w 8 i g r s (Di.of L).keys (Di.of L).kids ka kc a cap) (hN : N.n ≤ w.heap.size) :
    Calls Tryz.prog 35 #[.agg #[.int .i64 8, .int .i64 i, .int .i64 g, .float .f64 r, .string s, .slice ka (Di.of L).keys.length kc, .slice a (Di.of L).kids.len cap], .string key] w (DxE N (DropR (Di.of L) key) w) := by
  obtain ⟨⟨⟨k1, k2⟩, ⟨i1, i2⟩, ⟨g1, g2⟩, r1, s1⟩, hkeys, hkids⟩ := hn
  have hkl : (Di.of L).keys.length = L.length := by simp [Di.of]
  have hil : (Di.of L).kids.len = L.length := by simp [Di.of, F.of_len]
  rw [hkl, hil]
  have hl : L.length * 96 ≤ 140737488355328 := by have := hkids.2.1; rw [hil] at this; exact this
  obtain ⟨w0, hw0⟩ : ∃ w0, w0 = (w.alloc (.cells #[.int .i64 8, .int .i64 i, .int .i64 g, .float .f64 r, .string s, .slice ka L.length kc, .slice a L.length cap] 26)).alloc (.cells #[.int .i64 0, .int .i64 0, .int .i64 0, .float .f64 0, .string ⟨#[]⟩, .slice none 0 0, .slice none 0 0] 26) := ⟨_, rfl⟩
  have hK0 : Kept [] w w0 := by rw [hw0]; exact ((Kept.refl [] w).alloc _).alloc _
  have hX : w0.heap[w.heap.size]? = some (.cells #[.int .i64 8, .int .i64 i, .int .i64 g, .float .f64 r, .string s, .slice ka L.length kc, .slice a L.length cap] 26 (0, 0)) := by rw [hw0, heap_lt (by simp)]; exact heap_at rfl
  have hRc : w0.heap[w.heap.size + 1]? = some (.cells #[.int .i64 0, .int .i64 0, .int .i64 0, .float .f64 0, .string ⟨#[]⟩, .slice none 0 0, .slice none 0 0] 26 (0, 0)) := by rw [hw0]; exact heap_at (by simp)
  have hkeys0 := hkeys.kept hK0 (ltkB hN (by simp))
  have hkids0 := hkids.kept hK0 (ltkB hN (by simp))
  have HX := Lib.hid hX; have HRc := Lib.hid hRc; have HKE := Lib.hid hkeys0; have HKI := Lib.hid hkids0; have HD := Lib.hid hd; have HKL := Lib.hid hkl; have HIL := Lib.hid hil
  clear hX hRc hkeys0 hkids0 hkeys hkids hd hkl hil
  go_enter Tryz.func35, Tryz.ntmps35
  go_upto_region 1 with fail
  rw [← hw0]
  clear hw0
  go_upto_region 2 with fail
  obtain ⟨O, hO⟩ : ∃ O, O = w0.heap.size := ⟨_, rfl⟩
  obtain ⟨w1, hw1⟩ : ∃ w1, w1 = w0.alloc (.cells #[.int .i64 8, .int .i64 0, .int .i64 0, .float .f64 0, .string ⟨#[]⟩, .slice none 0 0, .slice none 0 0] 26) := ⟨_, rfl⟩
  have hK1 : Kept [] w0 w1 := by rw [hw1]; exact (Kept.refl [] w0).alloc _
  have hO1 : w1.heap[O]? = some (.cells #[.int .i64 8, .int .i64 0, .int .i64 0, .float .f64 0, .string ⟨#[]⟩, .slice none 0 0, .slice none 0 0] 26 (0, 0)) := by rw [hw1, hO]; exact heap_at rfl
  have hNO : N.n ≤ O := by rw [hO]; exact Nat.le_trans hN hK0.size
  rw [← hw1, ← hO]
  have HO1 := Lib.hid hO1; have HOO := Lib.hid hO; clear hw1 hO1 hO
  have hX1 := (hK1.block w.heap.size (lt_of_block HX.out) (by simp)).trans HX.out
  obtain ⟨⟨c0, c1, c2, c3, c4, c5, c6⟩, _⟩ := seven hX1
  clear hX1
  go_wp2_with fail
  clear c0 c1 c2 c3 c4 c5 c6
  go_loopw [6, 7, 12] (fun _ _ v wr => DdL L key O N w0 v wr) (fun _ _ v _ => L.length - (intOf v).toNat)
  case atStart => exact ⟨0, [], _, _, rfl, by omega, hK1, HO1.out, OutR.nil _ _ _, by rw [List.take_zero]; exact DropI.nil key⟩
  case round =>
    clear hK1 HO1
    obtain ⟨j, S, vk, vi, rfl, hj, hK, hOb, hout, hdi⟩ := hrel
    have hXr := (hK.block w.heap.size (lt_of_block HX.out) (by simp)).trans HX.out
    have hRr := (hK.block (w.heap.size + 1) (lt_of_block HRc.out) (by simp)).trans HRc.out
    by_cases hlt : j < L.length
    · obtain ⟨b, o, rfl, hbN, hc, hsz⟩ := (HKE.out.kept hK (ltkB (Nat.le_trans hN hK0.size) (by simp))).2.2 j (by rw [HKL.out]; exact hlt)
      obtain ⟨b', o', k', i', g', r', s', keys', kids', ka', kc', a', cap', rfl, hbN', hd, hcs, hnode⟩ := (HKI.out.kept hK (ltkB (Nat.le_trans hN hK0.size) (by simp))).at (by rw [HIL.out]; exact hlt)
      have hkj : (Di.of L).keys[j]'(by rw [HKL.out]; exact hlt) = (L[j]).1 := by simp [Di.of]
      rw [hkj] at hc hsz
      have hpj := Di.of_kid hlt hd
      rw [Nat.mul_comm 7 j] at hcs
      obtain ⟨d0, d1, d2, d3, d4, d5, d6⟩ := hcs
      have htl := (Srt.of HD.out.asc).take_lt hlt
      have HTL := Lib.hid htl; have HPJ := Lib.hid hpj; clear htl hpj
      obtain ⟨⟨x0, x1, x2, x3, x4, x5, x6⟩, _⟩ := seven hXr
      obtain ⟨⟨y0, y1, y2, y3, y4, y5, y6⟩, q0, q1, q2, q3, q4, q5, q6⟩ := seven hOb
      clear hkj hd
      by_cases hkey : (L[j]).1 = key
      · have zk := beq_of hkey
        have HI := Lib.hid hdi; have HOu := Lib.hid hout; clear hdi hout
        have HB := Lib.hid hOb; clear hOb
        go_wp2_with fail
        exact ⟨⟨j + 1, S, vk, vi, by go_num, by omega, hK, HB.out, HOu.out, by rw [take_more hlt]; exact HI.out.same hkey⟩, by simp [intOf]; omega⟩
      · have zk := beq_not hkey
        clear hXr hRr
        go_wp2_with fail
        obtain ⟨hkr, ⟨cs, hir, hfl⟩, hne, hszS⟩ := hout
        obtain ⟨ak, ck, rfl⟩ := own_form hkr
        obtain ⟨ai, ci, rfl⟩ := own_form hir
        obtain ⟨vk, hvk⟩ : ∃ v, v = Value.slice ak S.length ck := ⟨_, rfl⟩
        obtain ⟨vi, hvi⟩ : ∃ v, v = Value.slice ai S.length ci := ⟨_, rfl⟩
        rw [← hvk] at hkr hne
        rw [← hvi] at hir hne
        have hown : ∀ b, vk.ownBlock = some b ∨ vi.ownBlock = some b → O + 1 ≤ b := fun b hb => by
          rcases hb with hb | hb
          · exact (ownsRow_lt hkr hb).2
          · exact (ownsRow_lt hir hb).2
        have hOl := lt_of_block hOb
        have hst := Rg.start (.string (L[j]).1) [.int .i64 k', .int .i64 i', .int .i64 g', .float .f64 r', .string s', .slice ka' keys'.length kc', .slice a' kids'.len cap'] hkr hir hne (by omega : O + 1 ≤ wr.heap.size)
        have hsl : S.length < L.length := by have := hdi.len; rw [List.length_take] at this; omega
        have hwO : w.heap.size < O := by rw [HOO.out]; exact lt_of_block HX.out
        have hbO : b' < O := by have : b' < N.n := hbN'.1
                                omega
        have hS : ∀ W, Kept (O :: (vk.ownBlock.toList ++ vi.ownBlock.toList)) wr W → (W.cell? ⟨w.heap.size, 6, none⟩ = some (.slice (some ⟨b', o', none⟩) L.length cap) ∧
            W.cell? ⟨b', o' + j * 7, none⟩ = some (.int .i64 k') ∧ W.cell? ⟨b', o' + j * 7 + 1, none⟩ = some (.int .i64 i') ∧ W.cell? ⟨b', o' + j * 7 + 2, none⟩ = some (.int .i64 g') ∧ W.cell? ⟨b', o' + j * 7 + 3, none⟩ = some (.float .f64 r') ∧
            W.cell? ⟨b', o' + j * 7 + 4, none⟩ = some (.string s') ∧ W.cell? ⟨b', o' + j * 7 + 5, none⟩ = some (.slice ka' keys'.length kc') ∧ W.cell? ⟨b', o' + j * 7 + 6, none⟩ = some (.slice a' kids'.len cap')) := fun W hW => by
          have hin : ∀ x ∈ O :: (vk.ownBlock.toList ++ vi.ownBlock.toList), O ≤ x := fun x hx => by
            rcases List.mem_cons.1 hx with h | h
            · omega
            · have := hown x (by simpa using h); omega
          have e : ∀ b p, b < O → W.cell? ⟨b, p, none⟩ = wr.cell? ⟨b, p, none⟩ := fun b p hb => hW.cell (by omega) fun hm => by have := hin _ hm; omega
          exact ⟨(e _ _ (by omega)).trans x6, (e _ _ (by omega)).trans d0, (e _ _ (by omega)).trans d1, (e _ _ (by omega)).trans d2, (e _ _ (by omega)).trans d3, (e _ _ (by omega)).trans d4, (e _ _ (by omega)).trans d5, (e _ _ (by omega)).trans d6⟩
        have hZ : ∀ W, Kept (vk.ownBlock.toList ++ vi.ownBlock.toList) wr W → W.cell? ⟨O, 5, none⟩ = some (.slice ak S.length ck) ∧ W.cell? ⟨O, 6, none⟩ = some (.slice ai S.length ci) ∧ W.frozen? ⟨O, 5, none⟩ = false ∧ W.frozen? ⟨O, 6, none⟩ = false := fun W hW => by
          have hb := hW.block O hOl (fun hm => by have := hown O (by simpa using hm); omega)
          exact ⟨(World.cell?_of_block hb).trans y5, (World.cell?_of_block hb).trans y6, (World.frozen?_of_block hb).trans q5, (World.frozen?_of_block hb).trans q6⟩
        have hSM : ∀ W, Kept (vk.ownBlock.toList ++ vi.ownBlock.toList) wr W → Kept (O :: (vk.ownBlock.toList ++ vi.ownBlock.toList)) wr W := fun W h => h.mono fun x hx _ => List.mem_cons_of_mem _ hx
        have HSM := Lib.hid hSM; have HZ := Lib.hid hZ; have HS := Lib.hid hS; have HOW := Lib.hid hown; have HSZ := Lib.hid hszS; have HFL := Lib.hid hfl; have HB := Lib.hid hOb; have HND := Lib.hid hnode; have HI := Lib.hid hdi
        have HVK := Lib.hid hvk; have HVI := Lib.hid hvi; clear hvk hvi
        clear hSM hZ hS hown hszS hfl hkr hir hne hOb hnode hdi
        refine wp_region_noPanic ?_
        refine wp_region_T (C := fun W => W.cell? ⟨w.heap.size, 6, none⟩ = some (.slice (some ⟨b', o', none⟩) L.length cap) ∧
            W.cell? ⟨b', o' + j * 7, none⟩ = some (.int .i64 k') ∧ W.cell? ⟨b', o' + j * 7 + 1, none⟩ = some (.int .i64 i') ∧ W.cell? ⟨b', o' + j * 7 + 2, none⟩ = some (.int .i64 g') ∧ W.cell? ⟨b', o' + j * 7 + 3, none⟩ = some (.float .f64 r') ∧
            W.cell? ⟨b', o' + j * 7 + 4, none⟩ = some (.string s') ∧ W.cell? ⟨b', o' + j * 7 + 5, none⟩ = some (.slice ka' keys'.length kc') ∧ W.cell? ⟨b', o' + j * 7 + 6, none⟩ = some (.slice a' kids'.len cap'))
          (D := fun W => W.cell? ⟨O, 5, none⟩ = some (.slice ak S.length ck) ∧ W.cell? ⟨O, 6, none⟩ = some (.slice ai S.length ci) ∧ W.frozen? ⟨O, 5, none⟩ = false ∧ W.frozen? ⟨O, 6, none⟩ = false) (st := 15) (by kernel_rfl)
          ⟨HS.out _ (Kept.refl _ _).drew, fun _ => HZ.out _ (Kept.refl _ _).drew⟩ (fun hH => ?_)
        refine wpT_takeC (i := 0) (v := ?_) rfl (by kernel_rfl) (by kernel_rfl) (by kernel_rfl) (by kernel_rfl) (by kernel_rfl) (fun _ _ _ h => h) (Or.inl ⟨by rfl, ?_⟩) (by assumption) ?_
        rotate_left 1
        · intro W hSw
          (try dsimp only at hSw)
          go_simp
          (try with_reducible rfl)
        (try simp only [Act.put, List.setIfInBounds_toArray])
        refine wpT_takeD (i := 1) (v := ?_) rfl (by kernel_rfl) (by kernel_rfl) (by kernel_rfl) (by kernel_rfl) (by kernel_rfl) (fun _ _ _ h => h) (Or.inl ⟨by rfl, ?_⟩) (by assumption) ?_
        rotate_left 1
        · intro W hSw
          (try dsimp only at hSw)
          go_simp
          (try with_reducible rfl)
        (try simp only [Act.put])
        refine wpT_takeC (i := 2) (v := ?_) rfl (by kernel_rfl) (by kernel_rfl) (by kernel_rfl) (by kernel_rfl) (by kernel_rfl) (fun _ _ _ h => h) (Or.inl ⟨by rfl, ?_⟩) (by assumption) ?_
        rotate_left 1
        · intro W hSw
          (try dsimp only at hSw)
          go_simp
          (try with_reducible rfl)
        (try simp only [Act.put])
        refine wpT_takeC (i := 5) (v := ?_) rfl (by kernel_rfl) (by kernel_rfl) (by kernel_rfl) (by kernel_rfl) (by kernel_rfl) (fun _ _ _ h => h) (Or.inl ⟨by rfl, ?_⟩) (by assumption) ?_
        rotate_left 1
        · intro W hSw
          (try dsimp only at hSw)
          go_simp
          (try with_reducible rfl)
        (try simp only [Act.put])
        refine wpT_takeD (i := 6) (v := ?_) rfl (by kernel_rfl) (by kernel_rfl) (by kernel_rfl) (by kernel_rfl) (by kernel_rfl) (fun _ _ _ h => h) (Or.inl ⟨by rfl, ?_⟩) (by assumption) ?_
        rotate_left 1
        · intro W hSw
          (try dsimp only at hSw)
          go_simp
          (try with_reducible rfl)
        (try simp only [Act.put])
        refine wpT_takeC (i := 7) (v := ?_) rfl (by kernel_rfl) (by kernel_rfl) (by kernel_rfl) (by kernel_rfl) (by kernel_rfl) (fun _ _ _ h => h) (Or.inl ⟨by rfl, ?_⟩) (by assumption) ?_
        rotate_left 1
        · intro W hSw
          (try dsimp only at hSw)
          go_simp
          (try with_reducible rfl)
        (try simp only [Act.put])
        refine wpT_takeC (i := 8) (v := ?_) rfl (by kernel_rfl) (by kernel_rfl) (by kernel_rfl) (by kernel_rfl) (by kernel_rfl) (fun _ _ _ h => h) (Or.inl ⟨by rfl, ?_⟩) (by assumption) ?_
        rotate_left 1
        · intro W hSw
          (try dsimp only at hSw)
          go_simp
          (try with_reducible rfl)
        (try simp only [Act.put])
        refine wpT_takeC (i := 9) (v := ?_) rfl (by kernel_rfl) (by kernel_rfl) (by kernel_rfl) (by kernel_rfl) (by kernel_rfl) (fun _ _ _ h => h) (Or.inl ⟨by rfl, ?_⟩) (by assumption) ?_
        rotate_left 1
        · intro W hSw
          (try dsimp only at hSw)
          go_simp
          (try with_reducible rfl)
        (try simp only [Act.put])
        refine wpT_takeC (i := 10) (v := ?_) rfl (by kernel_rfl) (by kernel_rfl) (by kernel_rfl) (by kernel_rfl) (by kernel_rfl) (fun _ _ _ h => h) (Or.inl ⟨by rfl, ?_⟩) (by assumption) ?_
        rotate_left 1
        · intro W hSw
          (try dsimp only at hSw)
          go_simp
          (try with_reducible rfl)
        (try simp only [Act.put])
        refine wpT_takeC (i := 11) (v := ?_) rfl (by kernel_rfl) (by kernel_rfl) (by kernel_rfl) (by kernel_rfl) (by kernel_rfl) (fun _ _ _ h => h) (Or.inl ⟨by rfl, ?_⟩) (by assumption) ?_
        rotate_left 1
        · intro W hSw
          (try dsimp only at hSw)
          go_simp
          (try with_reducible rfl)
        (try simp only [Act.put])
        refine wpT_ready (rs := [3, 12]) (by kernel_rfl) (by simp) ?_
        refine AllT.cons rfl (fun K hK => ?_) (AllT.cons rfl (fun K hK => ?_) AllT.nil)
        · skip
          clear hH
          go_simp
          refine hK.out _ _ ⟨HS.out _ (HSM.out _ (by repeat (first | with_reducible exact hst.keep | with_reducible exact Kept.refl _ _ | with_reducible refine Kept.drew ?_ | with_reducible refine Kept.alloc ?_ _))), fun _ => HZ.out _ (by repeat (first | with_reducible exact hst.keep | with_reducible exact Kept.refl _ _ | with_reducible refine Kept.drew ?_ | with_reducible refine Kept.alloc ?_ _))⟩ (fun hH => ?_)
          clear hK K
          (try simp only [Act.put, List.setIfInBounds_toArray, List.set_cons_zero, List.set_cons_succ])
          refine wpT_ready (rs := [4, 12]) (by kernel_rfl) (by simp) ?_
          refine AllT.cons rfl (fun K hK => ?_) (AllT.cons rfl (fun K hK => ?_) AllT.nil)
          · skip
            clear hH
            apply stepK
            (case hgd => rfl)
            (case ho => rfl)
            (case hR => (repeat (first | with_reducible exact hst | with_reducible apply Rg.drew | apply Rg.allocK | apply Rg.allocI)))
            (case hs => (rw [HVK.out]; rfl))
            (case hx => rfl)
            (case hb => simp)
            (case h1 => rfl)
            (case hn => omega)
            all_goals skip
            intro g1 cap1 w9 hst
            refine hK.out _ _ ⟨HS.out _ (HSM.out _ (by repeat (first | with_reducible exact hst.keep | with_reducible exact Kept.refl _ _ | with_reducible refine Kept.drew ?_ | with_reducible refine Kept.alloc ?_ _))), fun _ => HZ.out _ (by repeat (first | with_reducible exact hst.keep | with_reducible exact Kept.refl _ _ | with_reducible refine Kept.drew ?_ | with_reducible refine Kept.alloc ?_ _))⟩ (fun hH => ?_)
            clear hK K
            (try simp only [Act.put, List.setIfInBounds_toArray])
            refine wpT_takeC (i := 14) (v := ?_) rfl (by kernel_rfl) (by kernel_rfl) (by kernel_rfl) (by kernel_rfl) (by kernel_rfl) (fun _ _ _ h => h) (Or.inl ⟨by rfl, ?_⟩) (by assumption) ?_
            rotate_left 1
            · intro W hSw
              (try dsimp only at hSw)
              go_simp
              (try with_reducible rfl)
            (try simp only [Act.put])
            refine wpT_ready (rs := [12]) (by kernel_rfl) (by simp) ?_
            refine AllT.cons rfl (fun K hK => ?_) AllT.nil
            clear hH
            go_simp
            refine hK.out _ _ ⟨HS.out _ (HSM.out _ (by repeat (first | with_reducible exact hst.keep | with_reducible exact Kept.refl _ _ | with_reducible refine Kept.drew ?_ | with_reducible refine Kept.alloc ?_ _))), fun _ => HZ.out _ (by repeat (first | with_reducible exact hst.keep | with_reducible exact Kept.refl _ _ | with_reducible refine Kept.drew ?_ | with_reducible refine Kept.alloc ?_ _))⟩ (fun hH => ?_)
            clear hK K
            (try simp only [Act.put, List.setIfInBounds_toArray, List.set_cons_zero, List.set_cons_succ])
            refine wpT_ready (rs := [13]) (by kernel_rfl) (by simp) ?_
            refine AllT.cons rfl (fun K hK => ?_) AllT.nil
            clear hH
            apply stepI
            (case hgd => rfl)
            (case ho => rfl)
            (case hR => (repeat (first | with_reducible exact hst | with_reducible apply Rg.drew | apply Rg.allocK | apply Rg.allocI)))
            (case hs => (rw [HVI.out]; rfl))
            (case hx => rfl)
            (case hb => simp)
            (case hl => rfl)
            (case h1 => simp [Value.oneCell'])
            (case hn => omega)
            all_goals skip
            intro g2 cap2 w9 hst
            obtain ⟨z5, z6, z7, z8⟩ := HZ.out _ hst.keep
            refine hK.out _ _ ⟨HS.out _ (HSM.out _ (by repeat (first | with_reducible exact hst.keep | with_reducible exact Kept.refl _ _ | with_reducible refine Kept.drew ?_ | with_reducible refine Kept.alloc ?_ _))), fun _ => HZ.out _ (by repeat (first | with_reducible exact hst.keep | with_reducible exact Kept.refl _ _ | with_reducible refine Kept.drew ?_ | with_reducible refine Kept.alloc ?_ _))⟩ (fun hH => ?_)
            clear hK K
            (try simp only [Act.put, List.setIfInBounds_toArray])
            refine wpT_ready (rs := [15]) (by kernel_rfl) (by simp) ?_
            refine AllT.cons rfl (fun K hK => ?_) AllT.nil
            clear hH
            go_simp
            refine hK.out _ _ ⟨HS.out _ (by repeat (first | with_reducible exact HSM.out _ hst.keep | with_reducible refine Kept.drew ?_ | with_reducible refine Kept.alloc ?_ _ | refine Kept.setCell ?_ (Or.inr (by simp)) _)), fun h => absurd h (by decide)⟩ (fun hH => ?_)
            clear hK K
            (try simp only [Act.put, List.setIfInBounds_toArray, List.set_cons_zero, List.set_cons_succ])
            refine wpT_takeC (i := 16) (v := ?_) rfl (by kernel_rfl) (by kernel_rfl) (by kernel_rfl) (by kernel_rfl) (by kernel_rfl) (fun _ _ _ h => h) (Or.inl ⟨by rfl, ?_⟩) (by assumption) ?_
            rotate_left 1
            · intro W hSw
              (try dsimp only at hSw)
              go_simp
              (try with_reducible rfl)
            (try simp only [Act.put, List.setIfInBounds_toArray])
            refine wpT_ready (rs := [17]) (by kernel_rfl) (by simp) ?_
            refine AllT.cons rfl (fun K hK => ?_) AllT.nil
            clear hH
            go_simp
            refine hK.out _ _ ⟨HS.out _ (by repeat (first | with_reducible exact HSM.out _ hst.keep | with_reducible refine Kept.drew ?_ | with_reducible refine Kept.alloc ?_ _ | refine Kept.setCell ?_ (Or.inr (by simp)) _)), fun h => absurd h (by decide)⟩ (fun hH => ?_)
            clear hK K
            (try simp only [Act.put, List.setIfInBounds_toArray, List.set_cons_zero, List.set_cons_succ])
            refine wpT_done (by kernel_rfl) ?_ _
            refine NoPanic.normal ?_
            have hput := put_round (y := (⟨k', i', g', r', s', keys', kids'⟩ : Nd)) hst rfl HB.out HOO.out.symm hNO hK HOW.out HFL.out HND.out hsz HSZ.out
            rw [← HPJ.out] at hput
            have HPU := Lib.hid hput; clear hput hst
            go_wp2_with fail
            refine ⟨⟨j + 1, S ++ [L[j]], _, _, by go_num, by omega, HPU.out.1, HPU.out.2.1, HPU.out.2.2, ?_⟩, by simp [intOf]; omega⟩
            rw [take_more hlt]
            exact HI.out.more hkey HTL.out
          · skip
            clear hH
            go_simp
            refine hK.out _ _ ⟨HS.out _ (HSM.out _ (by repeat (first | with_reducible exact hst.keep | with_reducible exact Kept.refl _ _ | with_reducible refine Kept.drew ?_ | with_reducible refine Kept.alloc ?_ _))), fun _ => HZ.out _ (by repeat (first | with_reducible exact hst.keep | with_reducible exact Kept.refl _ _ | with_reducible refine Kept.drew ?_ | with_reducible refine Kept.alloc ?_ _))⟩ (fun hH => ?_)
            clear hK K
            (try simp only [Act.put, List.setIfInBounds_toArray, List.set_cons_zero, List.set_cons_succ])
            refine wpT_ready (rs := [4]) (by kernel_rfl) (by simp) ?_
            refine AllT.cons rfl (fun K hK => ?_) AllT.nil
            clear hH
            apply stepK
            (case hgd => rfl)
            (case ho => rfl)
            (case hR => (repeat (first | with_reducible exact hst | with_reducible apply Rg.drew | apply Rg.allocK | apply Rg.allocI)))
            (case hs => (rw [HVK.out]; rfl))
            (case hx => rfl)
            (case hb => simp)
            (case h1 => rfl)
            (case hn => omega)
            all_goals skip
            intro g1 cap1 w9 hst
            refine hK.out _ _ ⟨HS.out _ (HSM.out _ (by repeat (first | with_reducible exact hst.keep | with_reducible exact Kept.refl _ _ | with_reducible refine Kept.drew ?_ | with_reducible refine Kept.alloc ?_ _))), fun _ => HZ.out _ (by repeat (first | with_reducible exact hst.keep | with_reducible exact Kept.refl _ _ | with_reducible refine Kept.drew ?_ | with_reducible refine Kept.alloc ?_ _))⟩ (fun hH => ?_)
            clear hK K
            (try simp only [Act.put, List.setIfInBounds_toArray])
            refine wpT_takeC (i := 14) (v := ?_) rfl (by kernel_rfl) (by kernel_rfl) (by kernel_rfl) (by kernel_rfl) (by kernel_rfl) (fun _ _ _ h => h) (Or.inl ⟨by rfl, ?_⟩) (by assumption) ?_
            rotate_left 1
            · intro W hSw
              (try dsimp only at hSw)
              go_simp
              (try with_reducible rfl)
            (try simp only [Act.put])
            refine wpT_ready (rs := [13]) (by kernel_rfl) (by simp) ?_
            refine AllT.cons rfl (fun K hK => ?_) AllT.nil
            clear hH
            apply stepI
            (case hgd => rfl)
            (case ho => rfl)
            (case hR => (repeat (first | with_reducible exact hst | with_reducible apply Rg.drew | apply Rg.allocK | apply Rg.allocI)))
            (case hs => (rw [HVI.out]; rfl))
            (case hx => rfl)
            (case hb => simp)
            (case hl => rfl)
            (case h1 => simp [Value.oneCell'])
            (case hn => omega)
            all_goals skip
            intro g2 cap2 w9 hst
            obtain ⟨z5, z6, z7, z8⟩ := HZ.out _ hst.keep
            refine hK.out _ _ ⟨HS.out _ (HSM.out _ (by repeat (first | with_reducible exact hst.keep | with_reducible exact Kept.refl _ _ | with_reducible refine Kept.drew ?_ | with_reducible refine Kept.alloc ?_ _))), fun _ => HZ.out _ (by repeat (first | with_reducible exact hst.keep | with_reducible exact Kept.refl _ _ | with_reducible refine Kept.drew ?_ | with_reducible refine Kept.alloc ?_ _))⟩ (fun hH => ?_)
            clear hK K
            (try simp only [Act.put])
            refine wpT_ready (rs := [15]) (by kernel_rfl) (by simp) ?_
            refine AllT.cons rfl (fun K hK => ?_) AllT.nil
            clear hH
            go_simp
            refine hK.out _ _ ⟨HS.out _ (by repeat (first | with_reducible exact HSM.out _ hst.keep | with_reducible refine Kept.drew ?_ | with_reducible refine Kept.alloc ?_ _ | refine Kept.setCell ?_ (Or.inr (by simp)) _)), fun h => absurd h (by decide)⟩ (fun hH => ?_)
            clear hK K
            (try simp only [Act.put, List.setIfInBounds_toArray, List.set_cons_zero, List.set_cons_succ])
            refine wpT_takeC (i := 16) (v := ?_) rfl (by kernel_rfl) (by kernel_rfl) (by kernel_rfl) (by kernel_rfl) (by kernel_rfl) (fun _ _ _ h => h) (Or.inl ⟨by rfl, ?_⟩) (by assumption) ?_
            rotate_left 1
            · intro W hSw
              (try dsimp only at hSw)
              go_simp
              (try with_reducible rfl)
            (try simp only [Act.put, List.setIfInBounds_toArray])
            refine wpT_ready (rs := [17]) (by kernel_rfl) (by simp) ?_
            refine AllT.cons rfl (fun K hK => ?_) AllT.nil
            clear hH
            go_simp
            refine hK.out _ _ ⟨HS.out _ (by repeat (first | with_reducible exact HSM.out _ hst.keep | with_reducible refine Kept.drew ?_ | with_reducible refine Kept.alloc ?_ _ | refine Kept.setCell ?_ (Or.inr (by simp)) _)), fun h => absurd h (by decide)⟩ (fun hH => ?_)
            clear hK K
            (try simp only [Act.put, List.setIfInBounds_toArray, List.set_cons_zero, List.set_cons_succ])
            refine wpT_done (by kernel_rfl) ?_ _
            refine NoPanic.normal ?_
            have hput := put_round (y := (⟨k', i', g', r', s', keys', kids'⟩ : Nd)) hst rfl HB.out HOO.out.symm hNO hK HOW.out HFL.out HND.out hsz HSZ.out
            rw [← HPJ.out] at hput
            have HPU := Lib.hid hput; clear hput hst
            go_wp2_with fail
            refine ⟨⟨j + 1, S ++ [L[j]], _, _, by go_num, by omega, HPU.out.1, HPU.out.2.1, HPU.out.2.2, ?_⟩, by simp [intOf]; omega⟩
            rw [take_more hlt]
            exact HI.out.more hkey HTL.out
        · skip
          clear hH
          go_simp
          refine hK.out _ _ ⟨HS.out _ (HSM.out _ (by repeat (first | with_reducible exact hst.keep | with_reducible exact Kept.refl _ _ | with_reducible refine Kept.drew ?_ | with_reducible refine Kept.alloc ?_ _))), fun _ => HZ.out _ (by repeat (first | with_reducible exact hst.keep | with_reducible exact Kept.refl _ _ | with_reducible refine Kept.drew ?_ | with_reducible refine Kept.alloc ?_ _))⟩ (fun hH => ?_)
          clear hK K
          (try simp only [Act.put, List.setIfInBounds_toArray, List.set_cons_zero, List.set_cons_succ])
          refine wpT_ready (rs := [3]) (by kernel_rfl) (by simp) ?_
          refine AllT.cons rfl (fun K hK => ?_) AllT.nil
          clear hH
          go_simp
          refine hK.out _ _ ⟨HS.out _ (HSM.out _ (by repeat (first | with_reducible exact hst.keep | with_reducible exact Kept.refl _ _ | with_reducible refine Kept.drew ?_ | with_reducible refine Kept.alloc ?_ _))), fun _ => HZ.out _ (by repeat (first | with_reducible exact hst.keep | with_reducible exact Kept.refl _ _ | with_reducible refine Kept.drew ?_ | with_reducible refine Kept.alloc ?_ _))⟩ (fun hH => ?_)
          clear hK K
          (try simp only [Act.put, List.setIfInBounds_toArray, List.set_cons_zero, List.set_cons_succ])
          refine wpT_ready (rs := [4]) (by kernel_rfl) (by simp) ?_
          refine AllT.cons rfl (fun K hK => ?_) AllT.nil
          clear hH
          apply stepK
          (case hgd => rfl)
          (case ho => rfl)
          (case hR => (repeat (first | with_reducible exact hst | with_reducible apply Rg.drew | apply Rg.allocK | apply Rg.allocI)))
          (case hs => (rw [HVK.out]; rfl))
          (case hx => rfl)
          (case hb => simp)
          (case h1 => rfl)
          (case hn => omega)
          all_goals skip
          intro g1 cap1 w9 hst
          refine hK.out _ _ ⟨HS.out _ (HSM.out _ (by repeat (first | with_reducible exact hst.keep | with_reducible exact Kept.refl _ _ | with_reducible refine Kept.drew ?_ | with_reducible refine Kept.alloc ?_ _))), fun _ => HZ.out _ (by repeat (first | with_reducible exact hst.keep | with_reducible exact Kept.refl _ _ | with_reducible refine Kept.drew ?_ | with_reducible refine Kept.alloc ?_ _))⟩ (fun hH => ?_)
          clear hK K
          (try simp only [Act.put, List.setIfInBounds_toArray])
          refine wpT_takeC (i := 14) (v := ?_) rfl (by kernel_rfl) (by kernel_rfl) (by kernel_rfl) (by kernel_rfl) (by kernel_rfl) (fun _ _ _ h => h) (Or.inl ⟨by rfl, ?_⟩) (by assumption) ?_
          rotate_left 1
          · intro W hSw
            (try dsimp only at hSw)
            go_simp
            (try with_reducible rfl)
          (try simp only [Act.put])
          refine wpT_ready (rs := [13]) (by kernel_rfl) (by simp) ?_
          refine AllT.cons rfl (fun K hK => ?_) AllT.nil
          clear hH
          apply stepI
          (case hgd => rfl)
          (case ho => rfl)
          (case hR => (repeat (first | with_reducible exact hst | with_reducible apply Rg.drew | apply Rg.allocK | apply Rg.allocI)))
          (case hs => (rw [HVI.out]; rfl))
          (case hx => rfl)
          (case hb => simp)
          (case hl => rfl)
          (case h1 => simp [Value.oneCell'])
          (case hn => omega)
          all_goals skip
          intro g2 cap2 w9 hst
          obtain ⟨z5, z6, z7, z8⟩ := HZ.out _ hst.keep
          refine hK.out _ _ ⟨HS.out _ (HSM.out _ (by repeat (first | with_reducible exact hst.keep | with_reducible exact Kept.refl _ _ | with_reducible refine Kept.drew ?_ | with_reducible refine Kept.alloc ?_ _))), fun _ => HZ.out _ (by repeat (first | with_reducible exact hst.keep | with_reducible exact Kept.refl _ _ | with_reducible refine Kept.drew ?_ | with_reducible refine Kept.alloc ?_ _))⟩ (fun hH => ?_)
          clear hK K
          (try simp only [Act.put])
          refine wpT_ready (rs := [15]) (by kernel_rfl) (by simp) ?_
          refine AllT.cons rfl (fun K hK => ?_) AllT.nil
          clear hH
          go_simp
          refine hK.out _ _ ⟨HS.out _ (by repeat (first | with_reducible exact HSM.out _ hst.keep | with_reducible refine Kept.drew ?_ | with_reducible refine Kept.alloc ?_ _ | refine Kept.setCell ?_ (Or.inr (by simp)) _)), fun h => absurd h (by decide)⟩ (fun hH => ?_)
          clear hK K
          (try simp only [Act.put, List.setIfInBounds_toArray, List.set_cons_zero, List.set_cons_succ])
          refine wpT_takeC (i := 16) (v := ?_) rfl (by kernel_rfl) (by kernel_rfl) (by kernel_rfl) (by kernel_rfl) (by kernel_rfl) (fun _ _ _ h => h) (Or.inl ⟨by rfl, ?_⟩) (by assumption) ?_
          rotate_left 1
          · intro W hSw
            (try dsimp only at hSw)
            go_simp
            (try with_reducible rfl)
          (try simp only [Act.put, List.setIfInBounds_toArray])
          refine wpT_ready (rs := [17]) (by kernel_rfl) (by simp) ?_
          refine AllT.cons rfl (fun K hK => ?_) AllT.nil
          clear hH
          go_simp
          refine hK.out _ _ ⟨HS.out _ (by repeat (first | with_reducible exact HSM.out _ hst.keep | with_reducible refine Kept.drew ?_ | with_reducible refine Kept.alloc ?_ _ | refine Kept.setCell ?_ (Or.inr (by simp)) _)), fun h => absurd h (by decide)⟩ (fun hH => ?_)
          clear hK K
          (try simp only [Act.put, List.setIfInBounds_toArray, List.set_cons_zero, List.set_cons_succ])
          refine wpT_done (by kernel_rfl) ?_ _
          refine NoPanic.normal ?_
          have hput := put_round (y := (⟨k', i', g', r', s', keys', kids'⟩ : Nd)) hst rfl HB.out HOO.out.symm hNO hK HOW.out HFL.out HND.out hsz HSZ.out
          rw [← HPJ.out] at hput
          have HPU := Lib.hid hput; clear hput hst
          go_wp2_with fail
          refine ⟨⟨j + 1, S ++ [L[j]], _, _, by go_num, by omega, HPU.out.1, HPU.out.2.1, HPU.out.2.2, ?_⟩, by simp [intOf]; omega⟩
          rw [take_more hlt]
          exact HI.out.more hkey HTL.out
    · have hjl : j = L.length := by omega
      subst hjl
      rw [List.take_length] at hdi
      have hfin := hdi.fin HD.out
      obtain ⟨ka9, kc9, a9, cap9, rfl, rfl, hnode⟩ := hout.out (by have := hdi.len; omega)
      obtain ⟨⟨y0, y1, y2, y3, y4, y5, y6⟩, _⟩ := seven hOb
      obtain ⟨⟨r0, r1', r2, r3, r4, r5, r6⟩, q0, q1, q2, q3, q4, q5, q6⟩ := seven hRr
      have hKw : Kept [] w wr := Kept.trans hK0 hK (by simp) (by simp)
      have HF := Lib.hid hfin; have HN := Lib.hid hnode; clear hfin hnode hdi hout hOb hRr hXr
      go_wp2_with fail
      have hsz1 := lt_of_block HRc.out
      have hoff : ∀ n : Nat, (⟨w.heap.size + 1, 0, none⟩ : Addr).add n = ⟨w.heap.size + 1, n, none⟩ := fun n => addr0 _ _
      refine bodyPost_ret (v := .agg #[.int .i64 8, .int .i64 0, .int .i64 0, .float .f64 0, .string ⟨#[]⟩, .slice ka9 S.length kc9, .slice a9 S.length cap9]) (by simp [results, Tryz.results35, go_sem, hoff, r0, r1', r2, r3, r4, r5, r6]) rfl ?_
      have hKx := kept7 (b := w.heap.size + 1) (Kept.refl [w.heap.size + 1] wr) (.inr (by simp)) (.int .i64 8) (.int .i64 0) (.int .i64 0) (.float .f64 0) (.string ⟨#[]⟩) (.slice ka9 S.length kc9) (.slice a9 S.length cap9)
      refine ⟨kept7 hKw (.inl (by omega)) _ _ _ _ _ _ _, Di.of S, ka9, kc9, a9, cap9, by simp [Di.of, F.of_len], (HN.out.kept hKx fun b hb => ?_).mono fun b hb => ?_, HF.out⟩
      · have := HOO.out
        have := hKw.size
        rcases hb with h | ⟨h1, h2⟩
        · exact ⟨by omega, by simp; omega⟩
        · exact ⟨h2, by simp; omega⟩
      · have := HOO.out
        have := hKw.size
        rcases hb with h | ⟨h1, h2⟩
        · exact .inl h
        · exact .inr ⟨by have := hK0.size; omega, Nat.lt_of_lt_of_le h2 hKx.size⟩
end Go.Proofs.YtfkecmlmnhbmoaaGreatDoor
