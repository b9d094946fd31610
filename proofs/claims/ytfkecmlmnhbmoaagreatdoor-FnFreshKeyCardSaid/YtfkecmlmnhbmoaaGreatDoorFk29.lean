import Derived.Test.YtfkecmlmnhbmoaaGreatDoorFk25
import Derived.Test.YtfkecmlmnhbmoaaGreatDoorFk27
namespace Go.Proofs.YtfkecmlmnhbmoaaGreatDoor
open Go.RowKit
/-- A call hands back a value, and this flag. -/
def FlagIs (bb : Bool) (e : Ending) : Prop := ∃ v : Value, e = .returned (.tuple #[v, .bool bb])
theorem flag_eq {v v' : Value} {b b' : Bool} (h : Ending.returned (.tuple #[v, .bool b]) = Ending.returned (.tuple #[v', .bool b'])) : b = b' := by
  simp only [Ending.returned.injEq, Value.tuple.injEq] at h
  have h2 := congrArg (fun a => a.toList) h
  simp at h2
  exact h2.2
/-- What fromObject does to a node, its flag told ahead. -/
def FoR (N : Nat) (W0 : World) (k i g : Int) (r : Nat) (s : ByteArray) (keys : List ByteArray) (kids : F) (bb : Bool) : Prop := ∀ (ka : Option Addr) (kc : Nat) (a : Option Addr) (cap : Nat) (w : World), Kept [] W0 w → Node (Lt N) w k i g r s keys kids ka kc a cap →
  Calls Tryz.prog 24 #[.agg #[.int .i64 k, .int .i64 i, .int .i64 g, .float .f64 r, .string s, .slice ka keys.length kc, .slice a kids.len cap]] w fun e w' => FoE N w k i g r s keys kids e w' ∧ FlagIs bb e
def FoF (N : Nat) (W0 : World) (k i g : Int) (r : Nat) (s : ByteArray) (keys : List ByteArray) (kids : F) : Prop := ∃ bb, FoR N W0 k i g r s keys kids bb
def FoN (N : Nat) (W0 : World) (f : F) (j : Nat) (bb : Bool) : Prop := ∀ k i g r s keys kids, f.drop j = .cons k i g r s keys kids (f.drop (j + 1)) → FoR N W0 k i g r s keys kids bb
theorem fo_at {N : Nat} {W0 : World} {f : F} (h : AllN (FoF N W0) f) {j : Nat} (hj : j < f.len) : ∃ bb, FoN N W0 f j bb := by
  obtain ⟨k, i, g, r, s, keys, kids, hd⟩ := F.drop_lt hj
  obtain ⟨p, hp⟩ := h.at hd
  refine ⟨p, fun k' i' g' r' s' keys' kids' hd' => ?_⟩
  rw [hd] at hd'
  cases hd'
  exact hp
open Classical in
noncomputable def foA (N : Nat) (W0 : World) (f : F) (j : Nat) : Bool := if h : ∃ bb, FoN N W0 f j bb then Classical.choose h else true
theorem foA_is {N : Nat} {W0 : World} {f : F} (h : AllN (FoF N W0) f) {j : Nat} (hj : j < f.len) : FoN N W0 f j (foA N W0 f j) := by
  unfold foA
  rw [dif_pos (fo_at h hj)]
  exact Classical.choose_spec (fo_at h hj)
noncomputable def fqF (N : Nat) (W0 : World) (f : F) (j : Nat) : Option Nat := if j < f.len then (if foA N W0 f j = true then some (j + 1) else none) else none
theorem fq_ends (N : Nat) (W0 : World) (f : F) : ∃ T, Tr (fqF N W0 f) 0 T ∧ T ≤ f.len := by
  obtain ⟨T, h1, h2, _⟩ := Tr.ends (f := fqF N W0 f) (fun q => f.len - q) (fun q => q ≤ f.len) (fun a b h e => by
    unfold fqF at e
    split at e
    · split at e
      · cases e; omega
      · cases e
    · cases e) _ 0 (Nat.le_refl _) (Nat.zero_le _)
  exact ⟨T, h1, h2⟩
structure FkLF (N h : Nat) (w0 : World) (kk : Int) (va : Value) (kids : F) (W0 : World) (T : Nat) (vi : Value) (wr : World) : Prop where
  ex : ∃ (j M : Nat) (v : Value) (f : F), j ≤ kids.len ∧ vi = .int .i64 j ∧ OwnF 31 w0.heap.size N w0.heap.size M wr v f ∧ Cv (kids.take j) f ∧ f.len = j ∧ Good (kids.take j) ∧
    wr.heap[h]? = some (.cells #[.int .i64 kk, .int .i64 0, .int .i64 0, .float .f64 0, .string ⟨#[]⟩, va, v] 31 (0, 0)) ∧ Kept [h] w0 wr ∧ Tr (fqF N W0 kids) j T
set_option maxRecDepth 100000 in
set_option maxHeartbeats 8000000 in
theorem fkidsF (N : Nat) (W0 : World) (ht0 : Tb N W0) (hN0 : N ≤ W0.heap.size) (kids : F) (ih : AllN (FoF N W0) kids) : ∃ bb : Bool, ∀ (kk : Int) (ka0 : Option Addr) (nk0 kc0 : Nat) (k i g : Int) (r : Nat) (s : ByteArray) (keys : List ByteArray) (ka : Option Addr) (kc : Nat) (a : Option Addr) (cap : Nat) (w : World), Kept [] W0 w →
    Node (Lt N) w k i g r s keys kids ka kc a cap →
    Calls Tryz.prog 46 #[.agg #[.int .i64 kk, .int .i64 0, .int .i64 0, .float .f64 0, .string ⟨#[]⟩, .slice ka0 nk0 kc0, .slice none 0 0], .agg #[.int .i64 k, .int .i64 i, .int .i64 g, .float .f64 r, .string s, .slice ka keys.length kc, .slice a kids.len cap]] w fun e w' => FkE N w kk ka0 nk0 kc0 kids e w' ∧ FlagIs bb e := by
  obtain ⟨T, hT0, hTl⟩ := fq_ends N W0 kids
  refine ⟨decide (T = kids.len), fun kk ka0 nk0 kc0 k i g r s keys ka kc a cap w hkw hn => ?_⟩
  have HT0 := Lib.hid hT0; clear hT0
  have ht := ht0.kept hkw hN0 (by simp)
  have hN : N ≤ w.heap.size := Nat.le_trans hN0 hkw.size
  have hkids := hn.kids
  clear hn
  obtain ⟨w0, hw0⟩ : ∃ w0, w0 = ((w.alloc (.cells #[.int .i64 kk, .int .i64 0, .int .i64 0, .float .f64 0, .string ⟨#[]⟩, .slice ka0 nk0 kc0, .slice none 0 0] 31)).alloc (.cells #[.int .i64 k, .int .i64 i, .int .i64 g, .float .f64 r, .string s, .slice ka keys.length kc, .slice a kids.len cap] 26)).alloc (.cells #[.int .i64 0, .int .i64 0, .int .i64 0, .float .f64 0, .string ⟨#[]⟩, .slice none 0 0, .slice none 0 0] 31) := ⟨_, rfl⟩
  have hK0 : Kept [] w w0 := by rw [hw0]; exact (((Kept.refl [] w).alloc _).alloc _).alloc _
  have hs0 : w0.heap.size = w.heap.size + 3 := by rw [hw0]; simp
  have hX2 : w0.heap[w.heap.size]? = some (.cells #[.int .i64 kk, .int .i64 0, .int .i64 0, .float .f64 0, .string ⟨#[]⟩, .slice ka0 nk0 kc0, .slice none 0 0] 31 (0, 0)) := by
    rw [hw0, heap_lt (by simp; omega), heap_lt (by simp)]; exact heap_at rfl
  have hX4 : w0.heap[w.heap.size + 1 + 1]? = some (.cells #[.int .i64 0, .int .i64 0, .int .i64 0, .float .f64 0, .string ⟨#[]⟩, .slice none 0 0, .slice none 0 0] 31 (0, 0)) := by
    rw [hw0]; exact heap_at (by simp)
  have HS0 := Lib.hid hs0
  have hkids0 := hkids.kept hK0 (ltk hN (by simp))
  clear ht
  have hN0 : N ≤ w0.heap.size := by omega
  have hlk : kids.len ≤ 140737488355328 := by have := hkids.2.1; omega
  have HKI := Lib.hid hkids0; have HIH := Lib.hid ih; have HX4 := Lib.hid hX4; clear hkids hkids0 ih hX4 hs0
  go_enter Tryz.func46, Tryz.ntmps46
  go_wp2_with fail
  rw [← hw0]
  clear hw0
  go_loopw [13] (FkLF N w.heap.size w0 kk (.slice ka0 nk0 kc0) kids W0 T) (fun v _ => kids.len - (intOf v).toNat)
  case atStart => exact ⟨0, w0.heap.size, _, .nil, by omega, rfl, OwnF.nil (Nat.le_refl _) hN0 (Nat.le_refl _), trivial, rfl, trivial, hX2, Kept.refl _ _, HT0.out⟩
  case round =>
    clear hX2
    obtain ⟨j, M, v, f, hj, rfl, hO, hcv, hfl, hgd, hX2, hK, hTr⟩ := hrel
    have HTR := Lib.hid hTr; clear hTr
    have hS := HS0.out
    obtain ⟨⟨x0, x1, x2, x3, x4, x5, x6⟩, y0, y1, y2, y3, y4, y5, y6⟩ := seven hX2
    have hlt2 := lt_of_block hX2
    have hK1 : Kept [] w wr := Kept.trans hK0 hK (by simp) (fun y hy hl => by simp at hy; omega)
    have HX2 := Lib.hid hX2; have HCV := Lib.hid hcv; have HFL := Lib.hid hfl; clear hX2 hcv hfl
    by_cases hlt : j < kids.len
    · obtain ⟨b, o, k', i', g', r', s', keys', kids', ka', kc', a', cap', rfl, hbN, hd, hcs, hnode⟩ := (HKI.out.kept hK (ltk hN0 (by simp; omega))).at hlt
      rw [Nat.mul_comm 7 j] at hcs
      obtain ⟨d0, d1, d2, d3, d4, d5, d6⟩ := hcs
      have hNr : N ≤ wr.heap.size := Nat.le_trans hN hK1.size
      obtain ⟨bb, hbb⟩ : ∃ bb, foA N W0 kids j = bb := ⟨_, rfl⟩
      have hcall := fun W (hW : Kept [] wr W) => (foA_is HIH.out hlt) _ _ _ _ _ _ _ hd ka' kc' a' cap' W (Kept.trans (Z := []) hkw (Kept.trans (Z := []) hK1 hW (by simp) (by simp)) (by simp) (by simp)) (hnode.kept hW (ltk hNr (by simp)))
      rw [hbb] at hcall
      have HBB := Lib.hid hbb; clear hbb
      have HC := Lib.hid hcall; have HD := Lib.hid hd; clear hcall hd hnode hS
      have hr0 := hO.row
      go_wp2_with fail
      refine (HC.out _ ((Kept.refl [] wr).alloc _)).mono ?_
      rintro e w2 ⟨⟨hK2, k2, i2, g2, r2, s2, ka2, nk2, kc2, a2, nd2, cap2, b2, rfl, hb2⟩, v9, hv9⟩
      obtain rfl : b2 = bb := flag_eq hv9
      clear hv9
      have hK3 : Kept [] wr w2 := Kept.trans ((Kept.refl [] wr).alloc _) hK2 (by simp) (by simp)
      have hX2' := (hK3.block w.heap.size hlt2 (by simp)).trans HX2.out
      have hlt4 : w.heap.size + 1 + 1 < wr.heap.size := by have := hK.size; have := HS0.out; omega
      have hX4' := (hK3.block (w.heap.size + 1 + 1) hlt4 (by simp)).trans ((hK.block _ (lt_of_block HX4.out) (by simp; omega)).trans HX4.out)
      have n4 : w.heap.size + 1 + 1 < w2.heap.size := by have := hK3.size; omega
      have n2 : w.heap.size < w2.heap.size := by omega
      clear x0 x1 x2 x3 x4 x5 x6 y0 y1 y2 y3 y4 y5 y6 d0 d1 d2 d3 d4 d5 d6
      cases b2
      · obtain ⟨⟨x0, x1, x2, x3, x4, x5, x6⟩, y0, y1, y2, y3, y4, y5, y6⟩ := seven hX4'
        have hoff := cell_set_off
        clear hb2
        have hte := HTR.out.last (show fqF N W0 kids j = none by unfold fqF; rw [if_pos hlt, HBB.out]; rfl)
        have hd9 : decide (T = kids.len) = false := by simp; omega
        have HD9 := Lib.hid hd9; clear hd9 hte
        go_wp2_with fail
        refine bodyPost_ret (v := .tuple #[.agg #[.int .i64 0, .int .i64 0, .int .i64 0, .float .f64 0, .string ⟨#[]⟩, .slice none 0 0, .slice none 0 0], .bool false]) (by simp [results, Tryz.results46, go_sem, hoff, Nat.ne_of_lt n4, World.cell?_alloc_old, x0, x1, x2, x3, x4, x5, x6]) rfl ?_
        refine ⟨⟨?_, 0, 0, 0, 0, ⟨#[]⟩, none, 0, 0, none, 0, 0, false, rfl, (fun h => by cases h), fun _ => ⟨rfl, rfl, rfl, rfl, rfl, rfl, rfl, rfl, rfl, rfl, rfl⟩⟩, _, (by rw [HD9.out]; first | done | rfl)⟩
        exact (kept7 (Kept.trans (Z := []) hK1 hK3 (by simp) (by simp)) (.inl (by omega)) _ _ _ _ _ _ _).alloc _
      · obtain ⟨⟨x0, x1, x2, x3, x4, x5, x6⟩, y0, y1, y2, y3, y4, y5, y6⟩ := seven hX2'
        obtain ⟨hg1, hg2, keys2, kids2, rfl, rfl, hnode2, hcv2⟩ := hb2.1 rfl
        obtain ⟨⟨cs, hr, hfl⟩, hM, hNB, hBH⟩ := hO
        have HNX := Lib.hid (HTR.out.next (show fqF N W0 kids j = some (j + 1) by unfold fqF; rw [if_pos hlt, HBB.out]; rfl))
        have hO2 : OwnF 31 w0.heap.size N w0.heap.size M wr v f := ⟨⟨cs, hr, hfl⟩, hM, hNB, hBH⟩
        obtain ⟨i0, hi, hz0, hz1, hz2⟩ := info_parts Tryz.info31
        have hflen : (f.len + 1) * 96 ≤ 140737488355328 := by have := HFL.out; have := HKI.out.2.1; omega
        have hr2 : w2.ownsRow w0.heap.size 31 7 v f.len cs := by
          rcases hr with ⟨e1, h | ⟨g, cap, cur, rfl, h2, h3, h4⟩⟩
          · exact ⟨e1, .inl h⟩
          · exact ⟨e1, .inr ⟨g, cap, cur, rfl, h2, (hK3.block g (lt_of_block h3) (by simp)).trans h3, h4⟩⟩
        have hB2 : w0.heap.size ≤ w2.heap.size := Nat.le_trans hK.size hK3.size
        go_wp2_with (at_builtin; go_must (refine app1 rfl _ _ 29 31 i0 (.agg #[.int .i64 0, .int .i64 0, .int .i64 0, .float .f64 0, .string ⟨#[]⟩, .slice none 0 0, .slice none 0 0]) 7 96 rfl Tryz.underlying29 hi hz0 hz1 hz2 rfl (by decide) rfl ((hr2.alloc _).alloc _) ⟨_, 0, none⟩ [.int .i64 k2, .int .i64 i2, .int .i64 g2, .float .f64 r2, .string s2, .slice ka2 keys2.length kc2, .slice a2 kids2.len cap2] rfl rfl ?c1 ?c2 hflen (by decide) ?c5 ?_))
        case c1 => exact cells_new_at _ _ _ _ (by simp)
        case c2 => simp [Value.oneCell']
        case c5 => simp; omega
        intro v' w' hrow' hg' hv'
        obtain ⟨W3, hW3⟩ : ∃ W3, W3 = (w2.alloc (.cells #[.int .i64 k2, .int .i64 i2, .int .i64 g2, .float .f64 r2, .string s2, .slice ka2 keys2.length kc2, .slice a2 kids2.len cap2] 31)).alloc (.cells #[.int .i64 k2, .int .i64 i2, .int .i64 g2, .float .f64 r2, .string s2, .slice ka2 keys2.length kc2, .slice a2 kids2.len cap2] 31) := ⟨_, rfl⟩
        have hK23 : Kept [] w2 W3 := by rw [hW3]; exact ((Kept.refl [] w2).alloc _).alloc _
        have hsz3 : W3.heap.size = w2.heap.size + 1 + 1 := by rw [hW3]; simp
        rw [← hW3] at hg'
        rw [← hsz3] at hv'
        have hK3' : Kept [] wr W3 := Kept.trans hK3 hK23 (by simp) (by simp)
        have hown : ∀ b, v.ownBlock = some b → w0.heap.size ≤ b ∧ b < wr.heap.size := hr.lt
        have hKw : Kept [] W3 w' ∨ ∃ b, v.ownBlock = some b ∧ Kept [b] W3 w' := by
          cases hvo : v.ownBlock with
          | none => exact .inl (Kept.of_grown hg' (fun k hk => by rw [hvo] at hk; cases hk))
          | some b => exact .inr ⟨b, rfl, Kept.of_grown hg' (fun k hk => by rw [hvo] at hk; cases hk; simp)⟩
        have hX2w : w'.heap[w.heap.size]? = some (.cells #[.int .i64 kk, .int .i64 0, .int .i64 0, .float .f64 0, .string ⟨#[]⟩, .slice ka0 nk0 kc0, v] 31 (0, 0)) := by
          refine (hg'.block w.heap.size (Nat.lt_of_lt_of_le n2 hK23.size) (fun e => ?_)).trans ((hK23.block _ n2 (by simp)).trans hX2')
          have := hown _ e.symm; have := HS0.out; omega
        have hOF := OwnF.snoc (E := 31) (B := w0.heap.size) (N := N) (H := w0.heap.size) (M := M) (w := W3) (w' := w') (v := v) (v' := v') (f := f) (h0 := (wr.alloc (.cells #[.int .i64 k', .int .i64 i', .int .i64 g', .float .f64 r', .string s', .slice ka' keys'.length kc', .slice a' kids'.len cap'] 26)).heap.size) (cs := cs)
          (by rw [hW3]; exact (hr2.alloc _).alloc _) (hfl.kept hK3' (fun b hb => ⟨by rcases hb with h | ⟨_, h, _⟩ <;> omega, by simp⟩)) (Nat.le_trans hM hK3'.size) hNB hBH (by simp; omega) (by have := hK.size; simp; omega) (fun b hb => by have := hown b hb; simp; omega)
          ((hnode2.kept hK23 (fun b hb => ⟨by rcases hb with h | ⟨_, h⟩ <;> omega, by simp⟩)).mono (fun b hb => by rcases hb with h | ⟨h, h2⟩; exact .inl h; exact .inr ⟨h, Nat.lt_of_lt_of_le h2 hK23.size⟩)) (Nat.le_trans hNr (Nat.le_trans hK3.size hK23.size)) hrow' hKw hv'
        have hrow2 := hrow'
        obtain ⟨_, ⟨_, h0⟩ | ⟨g9, cap9, cur9, rfl, hg9, _⟩⟩ := hrow2
        · omega
        obtain ⟨⟨z0, z1, z2, z3, z4, z5, z6⟩, q0, q1, q2, q3, q4, q5, q6⟩ := seven hX2w
        have HOF := Lib.hid hOF; have HX2w := Lib.hid hX2w; clear hOF hX2w hrow' hfl hr hr2 hO2 hX2' hX4' hnode2
        have hKa : Kept [w.heap.size] w0 W3 := Kept.trans hK hK3' (fun _ h => h) (by simp)
        have hKb : Kept [w.heap.size] w0 w' := by
          rcases hKw with h | ⟨b, hb, h⟩
          · exact Kept.trans hKa h (fun _ h => h) (by simp)
          · exact Kept.trans hKa h (fun _ h => h) (fun y hy hl => by simp at hy; subst hy; have := (hown _ hb).1; omega)
        have hNw' : N ≤ w'.heap.size := Nat.le_trans hNr (Nat.le_trans hK3'.size (by rcases hKw with h | ⟨_, _, h⟩ <;> exact h.size))
        have HKB := Lib.hid hKb; clear hKa hKb hKw hg' hv'
        go_wp2_with fail
        refine ⟨⟨j + 1, W3.heap.size, _, f.snoc k2 i2 g2 r2 s2 keys2 kids2, by omega, by go_num, HOF.out.kept ((Kept.refl [w.heap.size] w').set1 6 _) hNw' (fun x hx => ?_), ?_, ?_, ?_, ?_, HKB.out.set1 6 _, HNX.out⟩, by simp [intOf]; omega⟩
        · simp at hx; subst hx
          refine ⟨hN, .inl (by have := HS0.out; omega), fun e => ?_⟩
          simp [Value.ownBlock] at e; have := HS0.out; omega
        · rw [F.take_succ j HD.out]; exact Cv.snoc hcv2 HCV.out
        · rw [F.len_snoc, HFL.out]
        · rw [F.take_succ j HD.out]; exact Good.snoc hg1 hg2 hgd
        · have := block_set HX2w.out 6 (.slice (some ⟨g9, 0, none⟩) (f.len + 1) cap9)
          simpa using this
    · obtain ⟨a9, cap9, rfl⟩ := hO.slice
      have hjl : j = kids.len := by omega
      have hte := HTR.out.last (show fqF N W0 kids j = none from if_neg hlt)
      have hd9 : decide (T = kids.len) = true := by simp; omega
      have HD9 := Lib.hid hd9; clear hd9 hte
      have HJL := Lib.hid hjl; clear hjl
      have hX4' := (hK.block (w.heap.size + 1 + 1) (lt_of_block HX4.out) (by simp; omega)).trans HX4.out
      obtain ⟨⟨e0, e1, e2, e3, e4, e5, e6⟩, p0, p1, p2, p3, p4, p5, p6⟩ := seven hX4'
      have hoff := cell_set_off
      have HO := Lib.hid hO; clear hO hX4' hS
      go_wp2_with fail
      refine bodyPost_ret (v := .tuple #[.agg #[.int .i64 kk, .int .i64 0, .int .i64 0, .float .f64 0, .string ⟨#[]⟩, .slice ka0 nk0 kc0, .slice a9 f.len cap9], .bool true]) (by simp [results, Tryz.results46, go_sem, hoff, e0, e1, e2, e3, e4, e5, e6]) rfl ?_
      have hKw : Kept [w.heap.size + 1 + 1] wr (((((((wr.setCell ⟨w.heap.size + 1 + 1, 0, none⟩ (.int .i64 kk)).setCell ⟨w.heap.size + 1 + 1, 1, none⟩ (.int .i64 0)).setCell ⟨w.heap.size + 1 + 1, 2, none⟩ (.int .i64 0)).setCell ⟨w.heap.size + 1 + 1, 3, none⟩ (.float .f64 0)).setCell ⟨w.heap.size + 1 + 1, 4, none⟩ (.string ⟨#[]⟩)).setCell ⟨w.heap.size + 1 + 1, 5, none⟩ (.slice ka0 nk0 kc0)).setCell ⟨w.heap.size + 1 + 1, 6, none⟩ (.slice a9 f.len cap9)) :=
        kept7 (Kept.refl _ _) (.inr (by simp)) _ _ _ _ _ _ _
      refine ⟨⟨kept7 hK1 (.inl (by omega)) _ _ _ _ _ _ _, kk, 0, 0, 0, ⟨#[]⟩, ka0, nk0, kc0, a9, f.len, cap9, true, rfl, fun _ => ?_, (fun h => by cases h)⟩, _, (by rw [HD9.out]; first | done | rfl)⟩
      have hlk2 : f.len * 96 ≤ 140737488355328 := by have := HFL.out; have := HKI.out.2.1; omega
      have hkd := (HO.out.kids hlk2).2
      have htk : kids.take j = kids := by rw [HJL.out]; exact F.take_all kids
      refine ⟨by rw [← htk]; exact hgd, rfl, rfl, rfl, rfl, rfl, rfl, rfl, rfl, f, rfl, ?_, by have := HCV.out; rw [htk] at this; exact this⟩
      refine (hkd.kept hKw fun b hb => ⟨by rcases hb with h | ⟨_, h⟩ <;> omega, fun hm => ?_⟩).mono fun b hb => ?_
      · simp at hm; subst hm
        have := HS0.out
        rcases hb with h | ⟨h, _⟩ <;> omega
      · have := HS0.out
        rcases hb with h | ⟨h, h2⟩
        · exact .inl h
        · exact .inr ⟨by omega, by simpa using h2⟩
end Go.Proofs.YtfkecmlmnhbmoaaGreatDoor
