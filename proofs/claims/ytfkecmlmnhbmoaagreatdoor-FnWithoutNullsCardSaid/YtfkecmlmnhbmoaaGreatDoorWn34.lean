import Derived.Test.YtfkecmlmnhbmoaaGreatDoorWn31
import Derived.Test.YtfkecmlmnhbmoaaGreatDoorWn32
import Derived.Test.YtfkecmlmnhbmoaaGreatDoorWn33
import Derived.BigRegion
import Derived.Deep.RegionWith
namespace Go.Proofs.YtfkecmlmnhbmoaaGreatDoor
open Go.RowKit Go.Maps
structure W4L (N A : Nat) (w5 : World) (kids : F) (v32 : Value) (wr : World) : Prop where
  ex : ∃ (j M : Nat) (v : Value), v32 = .int .i64 j ∧ j ≤ kids.len ∧ OwnF 26 w5.heap.size N w5.heap.size M wr v (kids.take j).nn ∧
    wr.heap[A]? = some (.cells #[.int .i64 7, .int .i64 0, .int .i64 0, .float .f64 0, .string ⟨#[]⟩, .slice none 0 0, v] 26 (0, 0)) ∧ Kept [A] w5 wr
def X16 (kids : F) (wr : World) (A : Nat) (c : Obj) (e : Ending) (w' : World) : Prop := Kept [] wr w' ∧ w'.heap[A]? = some c ∧ ∃ (r' : Nat) (ka : Option Addr) (kc : Nat) (a : Option Addr) (cap : Nat) (kids' : F), e = .returned (.agg #[.int .i64 7, .int .i64 0, .int .i64 0, .float .f64 r', .string ⟨#[]⟩, .slice ka 0 kc, .slice a kids'.len cap]) ∧
    Node (Lt w'.heap.size) w' 7 0 0 r' ⟨#[]⟩ [] kids' ka kc a cap ∧ feq r' 0 ∧ SameF kids' kids.nn
def L4E (w : World) (e : Ending) (w' : World) : Prop := e = .returned (.bool true) ∧ Kept [] w w'
set_option maxRecDepth 100000 in
set_option maxHeartbeats 8000000 in
theorem law4 (k i g : Int) (r : Nat) (s : ByteArray) (keys : List ByteArray) (kids : F) (N : Nat) (ka : Option Addr) (kc : Nat) (a : Option Addr) (cap : Nat) (w : World) (hn : Node (Lt N) w k i g r s keys kids ka kc a cap) (ht : Tb N w) (hN : N ≤ w.heap.size) :
    Calls Tryz.prog 4 #[.agg #[.int .i64 k, .int .i64 i, .int .i64 g, .float .f64 r, .string s, .slice ka keys.length kc, .slice a kids.len cap]] w (L4E w) := by
  obtain ⟨w0, hw0⟩ : ∃ w0, w0 = w.alloc (.cells #[.int .i64 k, .int .i64 i, .int .i64 g, .float .f64 r, .string s, .slice ka keys.length kc, .slice a kids.len cap] 26) := ⟨_, rfl⟩
  have hK0 : Kept [] w w0 := by rw [hw0]; exact (Kept.refl [] w).alloc _
  have hX : w0.heap[w.heap.size]? = some (.cells #[.int .i64 k, .int .i64 i, .int .i64 g, .float .f64 r, .string s, .slice ka keys.length kc, .slice a kids.len cap] 26 (0, 0)) := by rw [hw0]; exact heap_at rfl
  obtain ⟨⟨c0, c1, c2, c3, c4, c5, c6⟩, _⟩ := seven hX
  have hk96 := hn.kids.2.1
  have hlk : kids.len ≤ 140737488351232 := by omega
  have HN := Lib.hid hn; have HT := Lib.hid ht; have HX := Lib.hid hX; clear hn ht hX
  go_enter Tryz.func4, Tryz.ntmps4
  go_upto_region 1 with fail
  rw [← hw0]
  clear hw0
  go_wp2_with fail
  refine (zfits1 k i g r s keys kids N ka kc a cap w0 (HN.out.kept hK0 (ltk hN (by simp))) (Nat.le_trans hN hK0.size)).mono ?_
  rintro e w1 ⟨⟨b1, rfl, _⟩, hK1⟩
  have hK2 : Kept [] w w1 := Kept.trans hK0 hK1 (by simp) (by simp)
  cases b1
  case' false =>
    go_wp2_with fail
    go_ret
    exact ⟨rfl, hK2⟩
  have hX1 := (hK1.block w.heap.size (lt_of_block HX.out) (by simp)).trans HX.out
  clear c0 c1 c2 c3 c4 c5 c6
  obtain ⟨⟨c0, c1, c2, c3, c4, c5, c6⟩, _⟩ := seven hX1
  have HX1 := Lib.hid hX1; clear hX1
  go_wp2_with fail
  refine (fromObj k i g r s keys kids N ka kc a cap w1 (HN.out.kept hK2 (ltk hN (by simp))) (HT.out.kept hK2 hN (by simp)) (Nat.le_trans hN hK2.size)).mono ?_
  rintro e w2 ⟨hK3, k3, i3, g3, r3, s3, ka3, nk3, kc3, a3, nd3, cap3, b3, rfl, hb3⟩
  have hK4 : Kept [] w w2 := Kept.trans hK2 hK3 (by simp) (by simp)
  have hX2 := (hK3.block w.heap.size (lt_of_block HX1.out) (by simp)).trans HX1.out
  clear c0 c1 c2 c3 c4 c5 c6
  obtain ⟨⟨c0, c1, c2, c3, c4, c5, c6⟩, _⟩ := seven hX2
  have HX2 := Lib.hid hX2; have HB := Lib.hid hb3; clear hX2 hb3
  have hlt0 : w.heap.size < w2.heap.size := lt_of_block HX2.out
  cases b3
  case' false =>
    go_wp2_with fail
    go_ret
    exact ⟨rfl, hK4.alloc _⟩
  by_cases hk7 : k = 7
  case' neg =>
    have zk : (k != 7) = true := bne_iff_ne.2 hk7
    clear hk7
    go_wp2_with fail
    go_ret
    exact ⟨rfl, hK4.alloc _⟩
  subst hk7
  obtain ⟨hg1, hg, keys3, kids3, rfl, rfl, hnode3, _⟩ := HB.out.1 rfl
  have HG1 := Lib.hid hg1; have HG := Lib.hid hg; have HN3 := Lib.hid hnode3; clear hg1 hg hnode3
  go_wp2_with fail
  obtain ⟨w3, hw3⟩ : ∃ w3, w3 = w2.alloc (.cells #[.int .i64 k3, .int .i64 i3, .int .i64 g3, .float .f64 r3, .string s3, .slice ka3 keys3.length kc3, .slice a3 kids3.len cap3] 31) := ⟨_, rfl⟩
  rw [← hw3]
  have hK5 : Kept [] w2 w3 := by rw [hw3]; exact (Kept.refl [] w2).alloc _
  clear hw3
  refine (modest k3 i3 g3 r3 s3 keys3 kids3 w2.heap.size ka3 kc3 a3 cap3 w3 ((HN3.out.mono (Q := Lt w2.heap.size) fun b hb => by
    rcases hb with h | ⟨_, h⟩
    · exact Nat.lt_of_lt_of_le h (Nat.le_trans hN hK4.size)
    · exact h).kept hK5 (ltk (Nat.le_refl _) (by simp))) hK5.size).mono ?_
  rintro e w4 ⟨hK6, b4, rfl, _⟩
  have hK7 : Kept [] w w4 := Kept.trans hK4 (Kept.trans (Z := []) hK5 hK6 (by simp) (by simp)) (by simp) (by simp)
  cases b4
  case' false =>
    go_wp2_with fail
    go_ret
    exact ⟨rfl, hK7⟩
  obtain ⟨w5, hw5⟩ : ∃ w5, w5 = w4.alloc (.cells #[.int .i64 7, .int .i64 0, .int .i64 0, .float .f64 0, .string ⟨#[]⟩, .slice none 0 0, .slice none 0 0] 26) := ⟨_, rfl⟩
  have hK8 : Kept [] w4 w5 := by rw [hw5]; exact (Kept.refl [] w4).alloc _
  have hK9 : Kept [] w w5 := Kept.trans hK7 hK8 (by simp) (by simp)
  have hY5 : w5.heap[w4.heap.size]? = some (.cells #[.int .i64 7, .int .i64 0, .int .i64 0, .float .f64 0, .string ⟨#[]⟩, .slice none 0 0, .slice none 0 0] 26 (0, 0)) := by rw [hw5]; exact heap_at rfl
  have hX5 : w5.heap[w.heap.size]? = some (.cells #[.int .i64 7, .int .i64 i, .int .i64 g, .float .f64 r, .string s, .slice ka keys.length kc, .slice a kids.len cap] 26 (0, 0)) :=
    ((Kept.trans (Z := []) (Kept.trans (Z := []) hK5 hK6 (by simp) (by simp)) hK8 (by simp) (by simp)).block w.heap.size hlt0 (by simp)).trans HX2.out
  have hX4 : w4.heap[w.heap.size]? = some (.cells #[.int .i64 7, .int .i64 i, .int .i64 g, .float .f64 r, .string s, .slice ka keys.length kc, .slice a kids.len cap] 26 (0, 0)) :=
    ((Kept.trans (Z := []) hK5 hK6 (by simp) (by simp)).block w.heap.size hlt0 (by simp)).trans HX2.out
  clear c0 c1 c2 c3 c4 c5 c6
  obtain ⟨⟨c0, c1, c2, c3, c4, c5, c6⟩, _⟩ := seven hX4
  have hA : w.heap.size < w4.heap.size := lt_of_block hX4
  have HX5 := Lib.hid hX5; have HY5 := Lib.hid hY5; clear hX5 hY5 hX4
  go_wp2_with fail
  rw [← hw5]
  clear hw5 c0 c1 c2 c3 c4 c5 c6
  go_loopw [7, 32] (fun _ v wr => W4L N w4.heap.size w5 kids v wr) (fun _ v _ => kids.len - (intOf v).toNat)
  case atStart => exact ⟨0, w5.heap.size, _, rfl, by omega, OwnF.nil (Nat.le_refl _) (Nat.le_trans hN hK9.size) (Nat.le_refl _), HY5.out, Kept.refl _ _⟩
  case round =>
    obtain ⟨j, M, v, rfl, hj, hO, hY, hK⟩ := hrel
    have hXr := (hK.block w.heap.size (lt_of_block HX5.out) (by simp; omega)).trans HX5.out
    have hAr : w4.heap.size < wr.heap.size := lt_of_block hY
    have hKw : Kept [] w wr := Kept.trans hK9 hK (by simp) (fun y hy hl => by simp at hy; omega)
    obtain ⟨⟨c0, c1, c2, c3, c4, c5, c6⟩, _⟩ := seven hXr
    obtain ⟨⟨e0, e1, e2, e3, e4, e5, e6⟩, p0, p1, p2, p3, p4, p5, p6⟩ := seven hY
    have HY := Lib.hid hY; have HXR := Lib.hid hXr; clear hXr hY
    by_cases hlt : j < kids.len
    · obtain ⟨b, o, k', i', g', r', s', keys', kids', ka', kc', a', cap', rfl, hbN, hd, hcs, hnode⟩ := (HN.out.kids.kept hKw (ltk hN (by simp))).at hlt
      rw [Nat.mul_comm 7 j] at hcs
      obtain ⟨d0, d1, d2, d3, d4, d5, d6⟩ := hcs
      have htk := F.take_succ j hd
      have HTK := Lib.hid htk; have HNO := Lib.hid hnode; clear htk hd hnode
      by_cases hk0 : k' = 0
      · have zk : (k' != 0) = false := by rw [hk0]; rfl
        have HK0 := Lib.hid hk0; clear hk0
        go_wp2_with fail
        refine ⟨⟨j + 1, M, v, by go_num, by omega, ?_, ?_, hK.alloc _⟩, by simp [intOf]; omega⟩
        · rw [HTK.out, F.nn_snoc, if_pos HK0.out]
          exact hO.kept ((Kept.refl [] wr).alloc _) (Nat.le_trans hN hKw.size) (by simp)
        · rw [heap_lt hAr]; exact HY.out
      · have zk : (k' != 0) = true := bne_iff_ne.2 hk0
        have HK0 := Lib.hid hk0; clear hk0
        obtain ⟨⟨cs, hr, hfl⟩, hM, hNB, hBH⟩ := hO
        obtain ⟨i0, hi, hz0, hz1, hz2⟩ := info_parts Tryz.info26
        have hbytes : ((kids.take j).nn.len + 1) * 96 ≤ 140737488355328 := by have := F.nn_len (kids.take j); have := F.len_take j kids; omega
        have hown : ∀ b, v.ownBlock = some b → w5.heap.size ≤ b ∧ b < wr.heap.size := hr.lt
        have h45 : w4.heap.size < w5.heap.size := lt_of_block HY5.out
        have hws : w5.heap.size ≤ wr.heap.size := hK.size
        have hNw : N ≤ wr.heap.size := Nat.le_trans hN hKw.size
        have HFL := Lib.hid hfl; clear hfl
        go_wp2_with (at_builtin; go_must (refine app1 rfl _ _ 24 26 i0 (.agg #[.int .i64 0, .int .i64 0, .int .i64 0, .float .f64 0, .string ⟨#[]⟩, .slice none 0 0, .slice none 0 0]) 7 96 rfl Tryz.underlying24 hi hz0 hz1 hz2 rfl (by decide) rfl ((hr.alloc _).alloc _) ⟨_, 0, none⟩ [.int .i64 k', .int .i64 i', .int .i64 g', .float .f64 r', .string s', .slice ka' keys'.length kc', .slice a' kids'.len cap'] rfl rfl ?c1 ?c2 hbytes (by decide) ?c5 ?_))
        case c1 => exact cells_new_at _ _ _ _ (by simp)
        case c2 => simp [Value.oneCell']
        case c5 => simp; omega
        intro v' w' hrow' hg' hv'
        obtain ⟨W3, hW3⟩ : ∃ W3, W3 = (wr.alloc (.cells #[.int .i64 k', .int .i64 i', .int .i64 g', .float .f64 r', .string s', .slice ka' keys'.length kc', .slice a' kids'.len cap'] 26)).alloc (.cells #[.int .i64 k', .int .i64 i', .int .i64 g', .float .f64 r', .string s', .slice ka' keys'.length kc', .slice a' kids'.len cap'] 26) := ⟨_, rfl⟩
        have hK3' : Kept [] wr W3 := by rw [hW3]; exact ((Kept.refl [] wr).alloc _).alloc _
        have hsz3 : W3.heap.size = wr.heap.size + 1 + 1 := by rw [hW3]; simp
        rw [← hW3] at hg'
        rw [← hsz3] at hv'
        have hKw' : Kept [] W3 w' ∨ ∃ b, v.ownBlock = some b ∧ Kept [b] W3 w' := by
          cases hvo : v.ownBlock with
          | none => exact .inl (Kept.of_grown hg' (fun k hk => by rw [hvo] at hk; cases hk))
          | some b => exact .inr ⟨b, rfl, Kept.of_grown hg' (fun k hk => by rw [hvo] at hk; cases hk; simp)⟩
        have hYw : w'.heap[w4.heap.size]? = some (.cells #[.int .i64 7, .int .i64 0, .int .i64 0, .float .f64 0, .string ⟨#[]⟩, .slice none 0 0, v] 26 (0, 0)) := by
          refine (hg'.block w4.heap.size (by omega) (fun e => ?_)).trans ((hK3'.block _ hAr (by simp)).trans HY.out)
          have := hown _ e.symm; omega
        have hOF := OwnF.snoc (E := 26) (B := w5.heap.size) (N := N) (H := w5.heap.size) (M := M) (w := W3) (w' := w') (v := v) (v' := v') (f := (kids.take j).nn) (h0 := wr.heap.size) (cs := cs)
          (by rw [hW3]; exact (hr.alloc _).alloc _) (HFL.out.kept hK3' (fun b hb => ⟨by rcases hb with h | ⟨_, h, _⟩ <;> omega, by simp⟩)) (Nat.le_trans hM hK3'.size) hNB hBH hM hK.size (fun b hb => (hown b hb).2)
          ((HNO.out.kept hK3' (ltk hNw (by simp))).mono (fun b hb => .inl hb)) (Nat.le_trans hNw hK3'.size) hrow' hKw' hv'
        have hrow2 := hrow'
        obtain ⟨_, ⟨_, h0⟩ | ⟨g9, cap9, cur9, rfl, hg9, _⟩⟩ := hrow2
        · omega
        have hKa : Kept [w4.heap.size] w5 W3 := Kept.trans hK hK3' (fun _ h => h) (by simp)
        have hKb : Kept [w4.heap.size] w5 w' := by
          rcases hKw' with h | ⟨b, hb, h⟩
          · exact Kept.trans hKa h (fun _ h => h) (by simp)
          · exact Kept.trans hKa h (fun _ h => h) (fun y hy hl => by simp at hy; subst hy; have := (hown _ hb).1; omega)
        have hNw' : N ≤ w'.heap.size := Nat.le_trans hNw (Nat.le_trans hK3'.size (by rcases hKw' with h | ⟨_, _, h⟩ <;> exact h.size))
        clear e0 e1 e2 e3 e4 e5 e6 p0 p1 p2 p3 p4 p5 p6
        obtain ⟨⟨e0, e1, e2, e3, e4, e5, e6⟩, p0, p1, p2, p3, p4, p5, p6⟩ := seven hYw
        have HOF := Lib.hid hOF; have HYW := Lib.hid hYw; have HKB := Lib.hid hKb; clear hOF hYw hKa hKb hKw' hg' hv' hrow' hr
        go_wp2_with fail
        refine ⟨⟨j + 1, W3.heap.size, .slice (some ⟨g9, 0, none⟩) ((kids.take j).nn.len + 1) cap9, by go_num, by omega, ?_, ?_, HKB.out.set1 6 _⟩, by simp [intOf]; omega⟩
        · rw [HTK.out, F.nn_snoc, if_neg HK0.out]
          refine HOF.out.kept ((Kept.refl [w4.heap.size] w').set1 6 _) hNw' (fun x hx => ?_)
          simp at hx; subst hx
          refine ⟨Nat.le_trans hN hK7.size, .inl h45, fun e => ?_⟩
          simp [Value.ownBlock] at e; omega
        · have := block_set HYW.out 6 (.slice (some ⟨g9, 0, none⟩) ((kids.take j).nn.len + 1) cap9)
          simpa using this
    · obtain ⟨a9, cap9, rfl⟩ := hO.slice
      have hjl : j = kids.len := by omega
      subst hjl
      have hO2 := hO
      have hY2 := HY.out
      rw [F.take_all] at hO2 hY2
      clear e0 e1 e2 e3 e4 e5 e6 p0 p1 p2 p3 p4 p5 p6 HY hO
      obtain ⟨⟨e0, e1, e2, e3, e4, e5, e6⟩, _⟩ := seven hY2
      have hNw : N ≤ wr.heap.size := Nat.le_trans hN hKw.size
      have hnl := F.nn_len kids
      have hkd := (hO2.kids (by omega)).2
      have hwant : Node (Lt wr.heap.size) wr 7 0 0 0 ⟨#[]⟩ [] kids.nn none 0 a9 cap9 :=
        ⟨⟨⟨by decide, by decide⟩, ⟨by decide, by decide⟩, ⟨by decide, by decide⟩, by decide, by decide⟩, keysNil, hkd.mono fun b hb => by
          rcases hb with h | ⟨_, h⟩
          · exact Nat.lt_of_lt_of_le h hNw
          · exact h⟩
      have h16 : ∀ W : World, Kept [] wr W → Calls Tryz.prog 16 #[.agg #[.int .i64 7, .int .i64 i, .int .i64 g, .float .f64 r, .string s, .slice ka keys.length kc, .slice a kids.len cap]] W (X16 kids wr w4.heap.size (.cells #[.int .i64 7, .int .i64 0, .int .i64 0, .float .f64 0, .string ⟨#[]⟩, .slice none 0 0, .slice a9 kids.nn.len cap9] 26 (0, 0))) := fun W hKd => by
        refine (withoutnulls i g r s keys kids N ka kc a cap W (HN.out.kept (Kept.trans (Z := []) hKw hKd (by simp) (by simp)) (ltk hN (by simp))) (Nat.le_trans hNw hKd.size) HG1.out HG.out).mono ?_
        rintro e w' ⟨hk, r', ka', kc', a', cap', kids', rfl, h1, h2, h3⟩
        have hk' : Kept [] wr w' := Kept.trans hKd hk (by simp) (by simp)
        exact ⟨hk', (hk'.block _ hAr (by simp)).trans hY2, r', ka', kc', a', cap', kids', rfl, h1, h2, h3⟩
      have h15 : ∀ (w6 : World), Kept [] wr w6 → ∀ (r' : Nat) (ka' : Option Addr) (kc' : Nat) (a' : Option Addr) (cap' : Nat) (kids' : F), Node (Lt w6.heap.size) w6 7 0 0 r' ⟨#[]⟩ [] kids' ka' kc' a' cap' → feq r' 0 → SameF kids' kids.nn → ∀ W, Kept [] w6 W →
          Calls Tryz.prog 15 #[.agg #[.int .i64 7, .int .i64 0, .int .i64 0, .float .f64 r', .string ⟨#[]⟩, .slice ka' 0 kc', .slice a' kids'.len cap'], .agg #[.int .i64 7, .int .i64 0, .int .i64 0, .float .f64 0, .string ⟨#[]⟩, .slice none 0 0, .slice a9 kids.nn.len cap9]] W (fun e w' => e = .returned (.bool true) ∧ Kept [] wr w') := fun w6 hk r' ka' kc' a' cap' kids' h1 h2 h3 W hKd => by
        refine ((eq_node 7 0 0 r' ⟨#[]⟩ [] kids') 0 kids.nn w6.heap.size ka' kc' a' cap' none 0 a9 cap9 W (h1.kept hKd (fun b hb => ⟨hb, by simp⟩)) (((hwant.kept hk (fun b hb => ⟨hb, by simp⟩)).mono (fun b hb => Nat.lt_of_lt_of_le hb hk.size)).kept hKd (fun b hb => ⟨hb, by simp⟩)) hKd.size h2 h3).mono ?_
        rintro e w' ⟨he, hk2⟩
        exact ⟨he, Kept.trans hk (Kept.trans (Z := []) hKd hk2 (by simp) (by simp)) (by simp) (by simp)⟩
      have H16 := Lib.hid h16; have H15 := Lib.hid h15; clear h16 h15 hwant hkd hO2 hY2 hnl
      go_wp2_with fail
      go_region_with (first | (go_at_call 16; refine (H16.out _ (by repeat (first | with_reducible exact Kept.refl _ _ | with_reducible refine Kept.drew ?_ | with_reducible refine Kept.drewN ?_ _))).mono ?_; rintro e w6 ⟨hK6x, hY6, r', ka', kc', a', cap', kids', rfl, hn6, hr6, hs6⟩; obtain ⟨⟨g0, g1, g2, g3, g4, g5, g6⟩, _⟩ := seven hY6; have H15x := Lib.hid (H15.out w6 hK6x r' ka' kc' a' cap' kids' hn6 hr6 hs6); clear hn6 hr6 hs6 hY6) | (go_at_call 15; refine (H15x.out _ (by repeat (first | with_reducible exact Kept.refl _ _ | with_reducible refine Kept.drew ?_ | with_reducible refine Kept.drewN ?_ _))).mono ?_; rintro e w7 ⟨rfl, hK7x⟩))
      all_goals go_wp2_with fail
      all_goals go_ret
      all_goals have hKz : Kept [] w w7 := Kept.trans hKw hK7x (by simp) (by simp)
      all_goals exact ⟨rfl, by repeat (first | with_reducible exact hKz | with_reducible refine Kept.drew ?_ | with_reducible refine Kept.drewN ?_ _)⟩
end Go.Proofs.YtfkecmlmnhbmoaaGreatDoor
