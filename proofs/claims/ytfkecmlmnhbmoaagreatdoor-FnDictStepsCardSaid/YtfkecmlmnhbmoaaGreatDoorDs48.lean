import Derived.Test.YtfkecmlmnhbmoaaGreatDoorDs38
import Derived.Test.YtfkecmlmnhbmoaaGreatDoorDs47
namespace Go.Proofs.YtfkecmlmnhbmoaaGreatDoor
open Go.RowKit Go.ChangeShapes
section
variable {H : Type} {enc : TypeId × Value → H} {w : World} {spare : Nat → Bool} {held : Bool}
theorem Tryz.cells45 : Tryz.prog.cellsOf 45 = 9 := by kernel_rfl
theorem Tryz.bytes45 : Tryz.prog.bytesOf 45 = 120 := by kernel_rfl
/-- A step that came in: its nine cells. -/
def StpOpen (w : World) (cs : List Value) : Prop := ∃ (s : Stp) (ka : Option Addr) (kc : Nat) (a : Option Addr) (cap : Nat), cs = [.int .i64 s.op, .string s.key, .int .i64 s.y.k, .int .i64 s.y.i, .int .i64 s.y.g, .float .f64 s.y.r, .string s.y.s, .slice ka s.y.keys.length kc, .slice a s.y.kids.len cap] ∧
  Node (Lt w.heap.size) w s.y.k s.y.i s.y.g s.y.r s.y.s s.y.keys s.y.kids ka kc a cap ∧ I64 s.op ∧ s.key.size ≤ 140737488351232
set_option maxRecDepth 100000 in
theorem openStp (m : Nat) (cs : List Value) (d : DataW H) (ps : List MemPlace) (h : DataW.trod enc Tryz.prog w 0 spare held m 45 cs = some (d, ps)) (hw : ∀ x ∈ d.weights Tryz.prog 45, x ≤ reachBytes) : StpOpen w cs := by
  obtain ⟨xs, n, rfl, hx, hlen, hxl, hf⟩ := DataW.trod_struct Tryz.underlying45 h
  rw [Tryz.cells45] at hlen
  have hd : d = .agg (xs.map (·.1)) := congrArg Prod.fst hx
  subst hd
  match xs, hxl, cs, hlen with
  | [y0, y1, y2], _, [v0, v1, v2, v3, v4, v5, v6, v7, v8], _ =>
    have g0 := hf 0 _ rfl
    have g1 := hf 1 _ rfl
    have g2 := hf 2 _ rfl
    simp [Tryz.cells3, Tryz.cells9, Tryz.cells26] at g0 g1 g2
    have hwe : DataW.weights Tryz.prog 45 (.agg [y0.1, y1.1, y2.1] : DataW H) = y0.1.weights Tryz.prog 3 ++ (y1.1.weights Tryz.prog 9 ++ (y2.1.weights Tryz.prog 26 ++ [])) := by
      simp only [DataW.weights, Tryz.underlying45, List.map, DataW.weightsEach]
    simp only [List.map] at hw
    rw [hwe] at hw
    obtain ⟨k, hk, _, wk⟩ := DataW.trod_int Tryz.underlying3 g0
    obtain ⟨s, hs, es, _⟩ := DataW.trod_string Tryz.underlying9 g1
    obtain ⟨k', i', g', r', s', keys', kids', ka', kc', a', cap', hc, hn⟩ := openObj n _ _ _ g2 (fun x hx => hw x (by simp [hx]))
    cases hk; cases hs
    simp only [List.cons.injEq, and_true] at hc
    obtain ⟨rfl, rfl, rfl, rfl, rfl, rfl, rfl⟩ := hc
    have hsz : s.size ≤ 140737488351232 := by
      have := hw s.data.toList.length (by rw [es]; simp [DataW.weights])
      unfold reachBytes at this
      rw [Array.length_toList] at this
      exact this
    exact ⟨⟨k, s, ⟨k', i', g', r', s', keys', kids'⟩⟩, ka', kc', a', cap', rfl, hn, lit64 wk, hsz⟩
/-- A slice of steps that came in. -/
theorem openSteps {m : Nat} {cs : List Value} {d : DataW H} {ps : List MemPlace} (h : DataW.trod enc Tryz.prog w 0 spare held m 42 cs = some (d, ps)) (hw : ∀ x ∈ d.weights Tryz.prog 42, x ≤ reachBytes) :
    ∃ a ss cap, cs = [.slice a (ss : List Stp).length cap] ∧ StepsIn (Lt w.heap.size) w a cap ss := by
  rcases DataW.trod_slice Tryz.underlying42 h with ⟨rfl, _⟩ | ⟨a, len, cap, elems, rest, n, rfl, rfl, hx, _, hl, hm, hlen, hel, _, _⟩
  · exact ⟨none, [], 0, rfl, by simp, by simp, fun j hj => by simp at hj⟩
  · have hd : d = .slice (elems.map (·.1)) (rest.map (·.1)) := congrArg Prod.fst hx
    subst hd
    have hwe : DataW.weights Tryz.prog 42 (.slice (elems.map (·.1)) (rest.map (·.1)) : DataW H) = ((elems.map (·.1)).length + (rest.map (·.1)).length) * Tryz.prog.bytesOf 45 :: (DataW.weightsAll Tryz.prog 45 (elems.map (·.1)) ++ DataW.weightsAll Tryz.prog 45 (rest.map (·.1))) := by
      simp only [DataW.weights, Tryz.underlying42]
    rw [hwe] at hw
    have h0 := hw _ (List.mem_cons_self)
    rw [List.length_map, hlen, Tryz.bytes45] at h0
    unfold reachBytes at h0
    have hone : ∀ i, i < len → ∃ (s : Stp) (ka : Option Addr) (kc : Nat) (a' : Option Addr) (cap' : Nat), (i = 0 → a = ⟨a.block, a.off, none⟩) ∧ a.block < w.heap.size ∧ Cells9 w a.block (a.off + i * 9) s (.slice ka s.y.keys.length kc) (.slice a' s.y.kids.len cap') ∧
        Node (Lt w.heap.size) w s.y.k s.y.i s.y.g s.y.r s.y.s s.y.keys s.y.kids ka kc a' cap' ∧ I64 s.op ∧ s.key.size ≤ 140737488351232 := fun i hi => by
      have hil : i < elems.length := by omega
      have h1 := hel i hi
      rw [List.getElem?_eq_getElem hil, Tryz.cells45] at h1
      cases hc : w.cells? 0 (a.add (i * 9)) 9 with
      | none => rw [hc] at h1; cases h1
      | some cs =>
        rw [hc] at h1
        obtain ⟨s, ka, kc, a', cap', rfl, hn, ho, hk⟩ := openStp n cs _ _ h1 (fun x hx => hw x (List.mem_cons_of_mem _ (List.mem_append_left _ (weightsAll_mem (List.mem_map.2 ⟨_, List.getElem_mem hil, rfl⟩) hx))))
        obtain ⟨_, _, hcell⟩ := World.cells?_some hc
        have e := fun p (hp : p < 9) => hcell p hp
        have e0 := e 0 (by omega)
        have e1 := e 1 (by omega)
        have e2 := e 2 (by omega)
        have e3 := e 3 (by omega)
        have e4 := e 4 (by omega)
        have e5 := e 5 (by omega)
        have e6 := e 6 (by omega)
        have e7 := e 7 (by omega)
        have e8 := e 8 (by omega)
        rw [add_add7] at e0 e1 e2 e3 e4 e5 e6 e7 e8
        have f0 := cell_add (e0.trans rfl)
        exact ⟨s, ka, kc, a', cap', fun hz => addr_none (v := .int .i64 s.op) (by rw [hz] at e0; exact e0), lt_cell f0,
          ⟨f0, cell_add (e1.trans rfl), cell_add (e2.trans rfl), cell_add (e3.trans rfl), cell_add (e4.trans rfl), cell_add (e5.trans rfl), cell_add (e6.trans rfl), cell_add (e7.trans rfl), cell_add (e8.trans rfl)⟩, hn, ho, hk⟩
    have hlist : ∀ k, k ≤ len → ∃ ss : List Stp, ss.length = k ∧ ∀ i (hi : i < ss.length), ∃ (ka : Option Addr) (kc : Nat) (a' : Option Addr) (cap' : Nat), (i = 0 → a = ⟨a.block, a.off, none⟩) ∧ a.block < w.heap.size ∧ Cells9 w a.block (a.off + i * 9) ss[i] (.slice ka ss[i].y.keys.length kc) (.slice a' ss[i].y.kids.len cap') ∧
        Node (Lt w.heap.size) w ss[i].y.k ss[i].y.i ss[i].y.g ss[i].y.r ss[i].y.s ss[i].y.keys ss[i].y.kids ka kc a' cap' ∧ I64 ss[i].op ∧ ss[i].key.size ≤ 140737488351232 := by
      intro k
      induction k with
      | zero => exact fun _ => ⟨[], rfl, fun i hi => by simp at hi⟩
      | succ k ih =>
        intro hk
        obtain ⟨ss, hss, hall⟩ := ih (by omega)
        obtain ⟨s, r⟩ := hone k (by omega)
        refine ⟨ss ++ [s], by simp [hss], fun i hi => ?_⟩
        by_cases e : i < ss.length
        · have := hall i e
          simp only [List.getElem_append_left e]
          exact this
        · have e2 : i = k := by simp at hi; omega
          subst e2
          have e3 : (ss ++ [s])[i] = s := by rw [List.getElem_append_right (by omega)]; simp [hss]
          rw [e3]
          exact r
    obtain ⟨ss, hss, hall⟩ := hlist len (Nat.le_refl _)
    refine ⟨some a, ss, cap, by rw [hss], by omega, by omega, fun j hj => ?_⟩
    obtain ⟨ka, kc, a', cap', _, hb, hc, hn, ho, hk⟩ := hall j hj
    obtain ⟨_, _, _, _, hz, _⟩ := hall 0 (by omega)
    exact ⟨a.block, a.off, ka, kc, a', cap', by rw [← hz rfl], hb, hc, hn, ho, hk⟩
end
end Go.Proofs.YtfkecmlmnhbmoaaGreatDoor
