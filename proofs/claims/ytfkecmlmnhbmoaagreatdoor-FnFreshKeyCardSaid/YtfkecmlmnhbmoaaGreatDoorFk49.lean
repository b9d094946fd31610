import Derived.Test.YtfkecmlmnhbmoaaGreatDoorFk04
import Derived.SliceStrings
import Derived.ChangeArms
import Derived.ProofKit
namespace Go.Proofs.YtfkecmlmnhbmoaaGreatDoor
open Go.RowKit Go.ChangeShapes
section
variable {H : Type} {enc : TypeId × Value → H} {w : World} {spare : Nat → Bool} {held : Bool}
theorem Tryz.bytes9 : Tryz.prog.bytesOf 9 = 16 := by kernel_rfl
theorem Tryz.bytes26 : Tryz.prog.bytesOf 26 = 96 := by kernel_rfl
theorem Tryz.cells9 : Tryz.prog.cellsOf 9 = 1 := by kernel_rfl
theorem Tryz.cells26 : Tryz.prog.cellsOf 26 = 7 := by kernel_rfl
theorem Tryz.cells3 : Tryz.prog.cellsOf 3 = 1 := by kernel_rfl
theorem Tryz.cells22 : Tryz.prog.cellsOf 22 = 1 := by kernel_rfl
theorem Tryz.cells23 : Tryz.prog.cellsOf 23 = 1 := by kernel_rfl
theorem Tryz.cells24 : Tryz.prog.cellsOf 24 = 1 := by kernel_rfl
set_option maxRecDepth 100000 in
theorem trodReal {fuel : Nat} {cs : List Value} {x : DataW H × List MemPlace} (h : DataW.trod enc Tryz.prog w 0 spare held fuel 22 cs = some x) : ∃ b, cs = [.float .f64 b] ∧ b < 18446744073709551616 := by
  cases fuel with
  | zero => cases h
  | succ n =>
    unfold DataW.trod at h
    rw [Tryz.underlying22] at h
    split at h
    all_goals (rename_i h1; try cases h1)
    all_goals try (rename_i h2 _; cases h2)
    all_goals try cases h
    all_goals split at h
    all_goals try cases h
    rename_i hk
    exact ⟨_, rfl, of_decide_eq_true (p := _ < 2 ^ 64) hk.2⟩
theorem lit64 {n : Int} (h : (Lit.int .i64 n).wf = true) : I64 n := by
  simp [Lit.wf, IntKind.min, IntKind.max, IntKind.signed, IntKind.bits] at h
  exact ⟨h.1, h.2⟩
theorem weightsAll_mem {e : TypeId} {x : Nat} : ∀ {ds : List (DataW H)} {d : DataW H}, d ∈ ds → x ∈ d.weights Tryz.prog e → x ∈ DataW.weightsAll Tryz.prog e ds
  | d0 :: ds, d, hd, hx => by
    rw [DataW.weightsAll, List.mem_append]
    rcases List.mem_cons.1 hd with rfl | h
    · exact .inl hx
    · exact .inr (weightsAll_mem h hx)
theorem cell_add {a : Addr} {i : Nat} {v : Value} (h : w.cell? (a.add i) = some v) : w.cell? ⟨a.block, a.off + i, none⟩ = some v := by
  obtain ⟨b, o, s⟩ := a
  by_cases e : i = 0
  · subst e
    cases s with
    | none => exact h
    | some s =>
      exfalso
      unfold World.cell? at h
      split at h
      · simp [Addr.add] at h
      · cases h
  · rw [← h]; simp [Addr.add, e]
theorem addr_none {a : Addr} {v : Value} (h : w.cell? (a.add 0) = some v) : a = ⟨a.block, a.off, none⟩ := by
  obtain ⟨b, o, s⟩ := a
  cases s with
  | none => rfl
  | some s =>
    exfalso
    unfold World.cell? at h
    split at h
    · simp [Addr.add] at h
    · cases h
/-- A slice of strings that came in. -/
theorem openKeys {fuel : Nat} {cs : List Value} {d : DataW H} {ps : List MemPlace} (h : DataW.trod enc Tryz.prog w 0 spare held fuel 23 cs = some (d, ps)) (hw : ∀ x ∈ d.weights Tryz.prog 23, x ≤ reachBytes) :
    ∃ a keys cap, cs = [.slice a (keys : List ByteArray).length cap] ∧ KeysIn (Lt w.heap.size) w a cap keys := by
  rcases open_strings Tryz.underlying23 Tryz.underlying9 Tryz.cells9 h with ⟨rfl, _⟩ | ⟨a, len, cap, ss, rfl, _, hl, hm, hss, hx, hc, _⟩
  · exact ⟨none, [], 0, rfl, by simp, by simp, fun i hi => by simp at hi⟩
  · have hlen : (ss.take len).length = len := by rw [List.length_take, hss]; split <;> omega
    have hd : d = .slice (strs (ss.take len)) (strs (ss.drop len)) := congrArg Prod.fst hx
    subst hd
    have hst : ∀ (l : List ByteArray), (strs (H := H) l).length = l.length := fun l => by simp [strs]
    have hwe : DataW.weights Tryz.prog 23 (.slice (strs (H := H) (ss.take len)) (strs (ss.drop len)) : DataW H) = ((strs (H := H) (ss.take len)).length + (strs (H := H) (ss.drop len)).length) * Tryz.prog.bytesOf 9 :: (DataW.weightsAll Tryz.prog 9 (strs (H := H) (ss.take len)) ++ DataW.weightsAll Tryz.prog 9 (strs (H := H) (ss.drop len))) := by
      simp only [DataW.weights, Tryz.underlying23]
    rw [hwe] at hw
    have h0 := hw _ (List.mem_cons_self)
    rw [hst, hst, hlen, Tryz.bytes9] at h0
    unfold reachBytes at h0
    refine ⟨some a, ss.take len, cap, by rw [hlen], by omega, by omega, fun i hi => ?_⟩
    have hil : i < len := by omega
    have his : i < ss.length := by rw [hss]; split <;> omega
    have hci := hc i his
    have ha := addr_none (hc 0 (by omega))
    have hg : ss.getD i ByteArray.empty = (ss.take len)[i] := by simp [List.getD, List.getElem?_eq_getElem his]
    rw [hg] at hci
    have hci2 := cell_add hci
    refine ⟨a.block, a.off, by rw [← ha], ?_, hci2, ?_⟩
    · unfold World.cell? at hci2
      split at hci2
      · rename_i hb; exact (Array.getElem?_eq_some_iff.1 hb).1
      · cases hci2
    · have hm1 : (.lit (.string (ss.take len)[i].data.toList) : DataW H) ∈ (strs (ss.take len) : List (DataW H)) := by
        unfold strs
        exact List.mem_map.2 ⟨_, List.getElem_mem hi, rfl⟩
      have := hw _ (List.mem_cons_of_mem _ (List.mem_append_left _ (weightsAll_mem (e := 9) (x := (ss.take len)[i].data.toList.length) hm1 (by simp [DataW.weights]))))
      unfold reachBytes at this
      rw [Array.length_toList] at this
      exact this
/-- An object that came in: its seven cells. -/
def ObjOpen (w : World) (cs : List Value) : Prop := ∃ k i g r s keys kids ka kc a cap, cs = [.int .i64 k, .int .i64 i, .int .i64 g, .float .f64 r, .string s, .slice ka (keys : List ByteArray).length kc, .slice a (kids : F).len cap] ∧ Node (Lt w.heap.size) w k i g r s keys kids ka kc a cap
theorem add_add7 (a : Addr) (i j : Nat) : (a.add i).add j = a.add (i + j) := by
  unfold Addr.add
  by_cases h : i = 0 <;> by_cases h2 : j = 0 <;> simp [h, h2]
  omega
theorem lt_cell {w : World} {b o : Nat} {v : Value} (h : w.cell? ⟨b, o, none⟩ = some v) : b < w.heap.size := by
  unfold World.cell? at h
  split at h
  · rename_i hb; exact (Array.getElem?_eq_some_iff.1 hb).1
  · cases h
/-- Objects beside one another, from the end on. -/
theorem openRun {m : Nat} (hS : ∀ cs d ps, DataW.trod enc Tryz.prog w 0 spare held m 26 cs = some (d, ps) → (∀ x ∈ d.weights Tryz.prog 26, x ≤ reachBytes) → ObjOpen w cs) {a : Addr} {elems : List (DataW H × List MemPlace)} {len : Nat} (hl : elems.length = len)
    (he : ∀ i, i < len → (w.cells? 0 (a.add (i * Tryz.prog.cellsOf 26)) (Tryz.prog.cellsOf 26)).bind (DataW.trod enc Tryz.prog w 0 spare held m 26) = elems[i]?) (hw : ∀ p ∈ elems, ∀ x ∈ p.1.weights Tryz.prog 26, x ≤ reachBytes) :
    ∀ k, k ≤ len → ∃ f : F, f.len = k ∧ (k = 0 ∨ ((k = len → a = ⟨a.block, a.off, none⟩) ∧ a.block < w.heap.size ∧ In (Lt w.heap.size) w f a.block (a.off + 7 * (len - k))))
  | 0, _ => ⟨.nil, rfl, .inl rfl⟩
  | k + 1, hk => by
    obtain ⟨f, hf, hin⟩ := openRun hS hl he hw k (by omega)
    have hi : len - (k + 1) < len := by omega
    have hil : len - (k + 1) < elems.length := by omega
    have h1 := he _ hi
    rw [List.getElem?_eq_getElem hil, Tryz.cells26] at h1
    cases hc : w.cells? 0 (a.add ((len - (k + 1)) * 7)) 7 with
    | none => rw [hc] at h1; cases h1
    | some cs =>
      rw [hc] at h1
      obtain ⟨k', i', g', r', s', keys', kids', ka', kc', a', cap', rfl, hn⟩ := hS cs _ _ h1 (hw _ (List.getElem_mem hil))
      obtain ⟨_, _, hcell⟩ := World.cells?_some hc
      have e0 := hcell 0 (by omega)
      have e1 := hcell 1 (by omega)
      have e2 := hcell 2 (by omega)
      have e3 := hcell 3 (by omega)
      have e4 := hcell 4 (by omega)
      have e5 := hcell 5 (by omega)
      have e6 := hcell 6 (by omega)
      rw [add_add7] at e0 e1 e2 e3 e4 e5 e6
      have ha : k + 1 = len → a = ⟨a.block, a.off, none⟩ := fun e => addr_none (v := .int .i64 k') (by rw [show len - (k + 1) = 0 by omega] at e0; exact e0)
      have f0 := cell_add (e0.trans rfl)
      have f1 := cell_add (e1.trans rfl)
      have f2 := cell_add (e2.trans rfl)
      have f3 := cell_add (e3.trans rfl)
      have f4 := cell_add (e4.trans rfl)
      have f5 := cell_add (e5.trans rfl)
      have f6 := cell_add (e6.trans rfl)
      have hb := lt_cell f0
      refine ⟨.cons k' i' g' r' s' keys' kids' f, by simp [F.len, hf], .inr ⟨ha, hb, In.mk (ka := ka') (kc := kc') (a := a') (cap := cap') ⟨?_, ?_, ?_, ?_, ?_, ?_, ?_⟩ hn ?_⟩⟩
      · rw [show a.off + 7 * (len - (k + 1)) = a.off + ((len - (k + 1)) * 7 + 0) by omega]; exact f0
      · rw [show a.off + 7 * (len - (k + 1)) + 1 = a.off + ((len - (k + 1)) * 7 + 1) by omega]; exact f1
      · rw [show a.off + 7 * (len - (k + 1)) + 2 = a.off + ((len - (k + 1)) * 7 + 2) by omega]; exact f2
      · rw [show a.off + 7 * (len - (k + 1)) + 3 = a.off + ((len - (k + 1)) * 7 + 3) by omega]; exact f3
      · rw [show a.off + 7 * (len - (k + 1)) + 4 = a.off + ((len - (k + 1)) * 7 + 4) by omega]; exact f4
      · rw [show a.off + 7 * (len - (k + 1)) + 5 = a.off + ((len - (k + 1)) * 7 + 5) by omega]; exact f5
      · rw [show a.off + 7 * (len - (k + 1)) + 6 = a.off + ((len - (k + 1)) * 7 + 6) by omega]; exact f6
      · rcases hin with h | ⟨_, _, h⟩
        · subst h
          rw [F.len_zero hf]; trivial
        · rwa [show a.off + 7 * (len - (k + 1)) + 7 = a.off + 7 * (len - k) by omega]
/-- A slice of objects that came in. -/
def KidsOpen (w : World) (cs : List Value) : Prop := ∃ a kids cap, cs = [.slice a (kids : F).len cap] ∧ Kids (Lt w.heap.size) w a cap kids
theorem openKids {m : Nat} (hS : ∀ m', m' < m → ∀ cs d ps, DataW.trod enc Tryz.prog w 0 spare held m' 26 cs = some (d, ps) → (∀ x ∈ d.weights Tryz.prog 26, x ≤ reachBytes) → ObjOpen w cs)
    {cs : List Value} {d : DataW H} {ps : List MemPlace} (h : DataW.trod enc Tryz.prog w 0 spare held m 24 cs = some (d, ps)) (hw : ∀ x ∈ d.weights Tryz.prog 24, x ≤ reachBytes) : KidsOpen w cs := by
  rcases DataW.trod_slice Tryz.underlying24 h with ⟨rfl, _⟩ | ⟨a, len, cap, elems, rest, n, rfl, rfl, hx, _, hl, hm, hlen, hel, _, _⟩
  · exact ⟨none, .nil, 0, rfl, by simp [F.len], by simp [F.len], .inl rfl⟩
  · have hd : d = .slice (elems.map (·.1)) (rest.map (·.1)) := congrArg Prod.fst hx
    subst hd
    have hwe : DataW.weights Tryz.prog 24 (.slice (elems.map (·.1)) (rest.map (·.1)) : DataW H) = ((elems.map (·.1)).length + (rest.map (·.1)).length) * Tryz.prog.bytesOf 26 :: (DataW.weightsAll Tryz.prog 26 (elems.map (·.1)) ++ DataW.weightsAll Tryz.prog 26 (rest.map (·.1))) := by
      simp only [DataW.weights, Tryz.underlying24]
    rw [hwe] at hw
    have h0 := hw _ (List.mem_cons_self)
    rw [List.length_map, hlen, Tryz.bytes26] at h0
    unfold reachBytes at h0
    have hw2 : ∀ p ∈ elems, ∀ x ∈ p.1.weights Tryz.prog 26, x ≤ reachBytes := fun p hp x hx => hw x (List.mem_cons_of_mem _ (List.mem_append_left _ (weightsAll_mem (List.mem_map.2 ⟨p, hp, rfl⟩) hx)))
    obtain ⟨f, hf, hin⟩ := openRun (hS n (by omega)) hlen hel hw2 len (Nat.le_refl _)
    refine ⟨some a, f, cap, by rw [hf], by omega, by rw [hf]; omega, ?_⟩
    rcases hin with h | ⟨ha, hb, h⟩
    · exact .inl (by omega)
    · rw [Nat.sub_self] at h
      exact .inr ⟨a.block, a.off, by rw [← ha rfl], hb, h⟩
set_option maxRecDepth 100000 in
theorem openObj : ∀ (m : Nat) (cs : List Value) (d : DataW H) (ps : List MemPlace), DataW.trod enc Tryz.prog w 0 spare held m 26 cs = some (d, ps) → (∀ x ∈ d.weights Tryz.prog 26, x ≤ reachBytes) → ObjOpen w cs := by
  intro m
  induction m using Nat.strongRecOn with
  | _ m ih =>
    intro cs d ps h hw
    obtain ⟨xs, n, rfl, hx, hlen, hxl, hf⟩ := DataW.trod_struct Tryz.underlying26 h
    rw [Tryz.cells26] at hlen
    have hd : d = .agg (xs.map (·.1)) := congrArg Prod.fst hx
    subst hd
    match xs, hxl, cs, hlen with
    | [y0, y1, y2, y3, y4, y5, y6], _, [v0, v1, v2, v3, v4, v5, v6], _ =>
      have g0 := hf 0 _ rfl
      have g1 := hf 1 _ rfl
      have g2 := hf 2 _ rfl
      have g3 := hf 3 _ rfl
      have g4 := hf 4 _ rfl
      have g5 := hf 5 _ rfl
      have g6 := hf 6 _ rfl
      simp [Tryz.cells3, Tryz.cells9, Tryz.cells22, Tryz.cells23, Tryz.cells24] at g0 g1 g2 g3 g4 g5 g6
      have hwe : DataW.weights Tryz.prog 26 (.agg [y0.1, y1.1, y2.1, y3.1, y4.1, y5.1, y6.1] : DataW H) = y0.1.weights Tryz.prog 3 ++ (y1.1.weights Tryz.prog 3 ++ (y2.1.weights Tryz.prog 3 ++ (y3.1.weights Tryz.prog 22 ++ (y4.1.weights Tryz.prog 9 ++ (y5.1.weights Tryz.prog 23 ++ (y6.1.weights Tryz.prog 24 ++ [])))))) := by
        simp only [DataW.weights, Tryz.underlying26, List.map, DataW.weightsEach]
      simp only [List.map] at hw
      rw [hwe] at hw
      obtain ⟨k, hk, _, wk⟩ := DataW.trod_int Tryz.underlying3 g0
      obtain ⟨i, hi, _, wi⟩ := DataW.trod_int Tryz.underlying3 g1
      obtain ⟨g, hg, _, wg⟩ := DataW.trod_int Tryz.underlying3 g2
      obtain ⟨r, hr, wr⟩ := trodReal g3
      obtain ⟨s, hs, es, _⟩ := DataW.trod_string Tryz.underlying9 g4
      obtain ⟨ka, keys, kc, hks, hkeys⟩ := openKeys (d := y5.1) (ps := y5.2) g5 (fun x hx => hw x (by simp [hx]))
      obtain ⟨a, kids, cap, hkd, hkids⟩ := openKids (m := n) (d := y6.1) (ps := y6.2) (fun m' hm' => ih m' (by omega)) g6 (fun x hx => hw x (by simp [hx]))
      cases hk; cases hi; cases hg; cases hr; cases hs; cases hks; cases hkd
      have hsz : s.size ≤ 140737488351232 := by
        have := hw s.data.toList.length (by rw [es]; simp [DataW.weights])
        unfold reachBytes at this
        rw [Array.length_toList] at this
        exact this
      exact ⟨k, i, g, r, s, keys, kids, ka, kc, a, cap, rfl, ⟨lit64 wk, lit64 wi, lit64 wg, wr, hsz⟩, hkeys, hkids⟩
end
end Go.Proofs.YtfkecmlmnhbmoaaGreatDoor
