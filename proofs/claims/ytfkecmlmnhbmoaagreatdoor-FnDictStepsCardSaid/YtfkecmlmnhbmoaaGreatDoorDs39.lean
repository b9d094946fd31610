import Derived.Test.YtfkecmlmnhbmoaaGreatDoorDs38
namespace Go.Proofs.YtfkecmlmnhbmoaaGreatDoor
open Go.RowKit Go.Maps
/-- What impl.DictSteps hands back. -/
def DqE (ss : List Stp) (d : Nat → Di) (told : Nat → Bool) (v : Nat → Nd) (w : World) (e : Ending) (w' : World) : Prop := Kept [] w w' ∧
  ∃ (r : Nat) (ka : Option Addr) (kc : Nat) (a : Option Addr) (cap : Nat) (kids : F) (bs : List Bool) (vs : List Nd) (tb : Option Addr) (tc : Nat) (va : Option Addr) (vc : Nat),
    e = .returned (.tuple #[.agg #[.int .i64 8, .int .i64 0, .int .i64 0, .float .f64 r, .string ⟨#[]⟩, .slice ka (d ss.length).keys.length kc, .slice a kids.len cap], .slice tb ss.length tc, .slice va ss.length vc]) ∧
    Node (Fr 0 w.heap.size w'.heap.size) w' 8 0 0 r ⟨#[]⟩ (d ss.length).keys kids ka kc a cap ∧ feq r 0 ∧ SameF kids (d ss.length).kids ∧ RowIn (Fr 0 w.heap.size w'.heap.size) w' tb (bs.map .bool) ∧ Kids (Fr 0 w.heap.size w'.heap.size) w' va vc (F.of vs) ∧ bs.length = ss.length ∧ Res ss told v bs vs
structure DqL (ss : List Stp) (d : Nat → Di) (told : Nat → Bool) (v : Nat → Nd) (B b bd : Nat) (w0 : World) (v5 v6 v37 : Value) (wr : World) : Prop where
  ex : ∃ (j : Nat) (bs : List Bool) (vs : List Nd), v37 = .int .i64 j ∧ j ≤ ss.length ∧ bs.length = j ∧ Kept [b] w0 wr ∧ RepM (Own2 v5 v6) (b + 1) b (bd + j) wr (d j) ∧ Two (fun x => B ≤ x) B b wr v5 v6 bs vs ∧ Res ss told v bs vs
set_option maxRecDepth 100000 in
set_option maxHeartbeats 8000000 in
theorem dictsteps (ss : List Stp) (d : Nat → Di) (told : Nat → Bool) (v : Nat → Nd) (i g : Int) (r : Nat) (s : ByteArray) (N : Nat) (ka : Option Addr) (kc : Nat) (a : Option Addr) (cap : Nat) (sa : Option Addr) (sc : Nat) (w : World) (h0 : DiOk (d 0)) (hh : Hist ss d told v ss.length) (hn : Node (Lt N) w 8 i g r s (d 0).keys (d 0).kids ka kc a cap)
    (hs : StepsIn (Lt N) w sa sc ss) (hN : N ≤ w.heap.size) (hlb : (d 0).keys.length ≤ 2147483647) (hss : ss.length ≤ 2147483647) :
    Calls Tryz.prog 18 #[.agg #[.int .i64 8, .int .i64 i, .int .i64 g, .float .f64 r, .string s, .slice ka (d 0).keys.length kc, .slice a (d 0).kids.len cap], .slice sa ss.length sc] w (DqE ss d told v w) := by
  obtain ⟨w0, hw0⟩ : ∃ w0, w0 = (w.alloc (.cells #[.int .i64 8, .int .i64 i, .int .i64 g, .float .f64 r, .string s, .slice ka (d 0).keys.length kc, .slice a (d 0).kids.len cap] 26)).alloc (.cells #[.int .i64 0, .int .i64 0, .int .i64 0, .float .f64 0, .string ⟨#[]⟩, .slice none 0 0, .slice none 0 0] 26) := ⟨_, rfl⟩
  have hK0 : Kept [] w w0 := by rw [hw0]; exact ((Kept.refl [] w).alloc _).alloc _
  have hX : w0.heap[w.heap.size]? = some (.cells #[.int .i64 8, .int .i64 i, .int .i64 g, .float .f64 r, .string s, .slice ka (d 0).keys.length kc, .slice a (d 0).kids.len cap] 26 (0, 0)) := by rw [hw0, heap_lt (by simp)]; exact heap_at rfl
  have hRc : w0.heap[w.heap.size + 1]? = some (.cells #[.int .i64 0, .int .i64 0, .int .i64 0, .float .f64 0, .string ⟨#[]⟩, .slice none 0 0, .slice none 0 0] 26 (0, 0)) := by rw [hw0]; exact heap_at (by simp)
  have hcall := ob_dict i g r s (d 0) N ka kc a cap w0 h0 (hn.kept hK0 (ltk hN (by simp))) (Nat.le_trans hN hK0.size)
  have hs0 := hs.kept hK0 (ltk hN (by simp))
  obtain ⟨⟨c0, c1, c2, c3, c4, c5, c6⟩, _⟩ := seven hX
  have HC := Lib.hid hcall; have HRc := Lib.hid hRc; have HS := Lib.hid hs0; have HH := Lib.hid hh; have H0 := Lib.hid h0; have HLB := Lib.hid hlb
  clear hX hRc hcall hs0 hs hn hh h0 hlb
  go_enter Tryz.func18, Tryz.ntmps18
  go_upto_region 1 with fail
  rw [← hw0]
  clear hw0
  go_wp2_with fail
  refine HC.out.mono ?_
  rintro e w1 ⟨hK1, b, rfl, hb1, hb2, hrep⟩
  have hK2 : Kept [] w w1 := Kept.trans hK0 hK1 (by simp) (by simp)
  have HR := Lib.hid hrep; clear hrep c0 c1 c2 c3 c4 c5 c6
  have hta := Tryz.hit61 (.map (some b)) 66 w1
  go_wp2_with fail
  clear hta
  go_loopw [5, 6, 12, 13, 14, 15, 16, 17, 37] (fun v5 v6 _ _ _ _ _ _ v37 wr => DqL ss d told v w1.heap.size b (d 0).keys.length w1 v5 v6 v37 wr) (fun _ _ _ _ _ _ _ _ v _ => ss.length - (intOf v).toNat)
  case atStart => exact ⟨0, [], [], rfl, by omega, rfl, Kept.refl _ _, HR.out.nil, Two.nil _ _ _ _, Res.nil _ _ _⟩
  case round =>
    obtain ⟨j, bs, vs, rfl, hj, hbl, hK, hrep, htwo, hres⟩ := hrel
    have HRJ := Lib.hid hrep; have HTW := Lib.hid htwo; have HRS := Lib.hid hres; have HBL := Lib.hid hbl; clear hrep htwo hres hbl
    by_cases hlt : j < ss.length
    · obtain ⟨b', o', ka', kc', a', cap', rfl, hbN, hcs, hnode, hio, hks⟩ := (HS.out.kept (Kept.trans hK1 hK (Z := [b]) (by simp) (fun _ h _ => h)) (ltk (Nat.le_trans hN hK0.size) (by simp; have := hK0.size; omega))).2.2 j hlt
      obtain ⟨t0, t1, t2, t3, t4, t5, t6, t7, t8⟩ := hcs
      obtain ⟨hdo, hdl⟩ := HH.out.dok H0.out j (by omega)
      have hstep := HH.out.step j hlt hlt
      have hcall : ∀ W, Kept [] wr W → Calls Tryz.prog 37 #[.map (some b), .agg #[.int .i64 ss[j].op, .string ss[j].key, .int .i64 ss[j].y.k, .int .i64 ss[j].y.i, .int .i64 ss[j].y.g, .float .f64 ss[j].y.r, .string ss[j].y.s, .slice ka' ss[j].y.keys.length kc', .slice a' ss[j].y.kids.len cap']] W (SpE (Own2 u5 u6) (b + 1) b ((d 0).keys.length + j) (d (j + 1)) ss[j].op (told j) (v j) W) := fun W hW =>
        stepw (Own2 u5 u6) (b + 1) b ((d 0).keys.length + j) (d j) (d (j + 1)) ss[j].op ss[j].key ss[j].y (told j) (v j) N ka' kc' a' cap' W (HRJ.out.kept hW) hdo hstep (hnode.kept hW (ltk (by have := hK2.size; have := hK.size; omega) (by simp))) (HH.out.ok j hlt hlt) (by have := hK2.size; have := hK.size; have := hW.size; omega) (by have := hK.size; have := hW.size; omega) (by omega) (by have := HLB.out; unfold maxLen; omega) (HH.out.simp j hlt hlt) (fun x hx => Nat.lt_of_lt_of_le (HTW.out.own hx).2 hW.size)
      have HCS := Lib.hid hcall; clear hcall hstep hdo hdl hnode
      go_wp2_with fail
      refine (HCS.out _ ((Kept.refl _ _).alloc _)).mono ?_
      rintro e w2 ⟨hK3, hrep2, says, val, nv, rfl, hsay, hob, hok, hnv⟩
      have htell := (tell_node nv.k nv.i nv.g nv.r nv.s nv.keys nv.kids) _ val w2 hob (fun x hx => hx.2.1) hok
      have HT := Lib.hid htell; have HR2 := Lib.hid hrep2; have HSY := Lib.hid hsay; have HNV := Lib.hid hnv; have hif := hob.ifv; have HIF := Lib.hid hif; clear htell hrep2 hsay hob hok hnv hif
      go_wp2_with fail
      refine HT.out.mono ?_
      rintro e w3 ⟨hK4, r4, ka4, kc4, a4, cap4, kids4, rfl, hn4, hr4, hsf4⟩
      go_wp2_with fail
      obtain ⟨W4, hW4⟩ : ∃ W4, W4 = w3.alloc (.cells #[.int .i64 nv.k, .int .i64 nv.i, .int .i64 nv.g, .float .f64 r4, .string nv.s, .slice ka4 nv.keys.length kc4, .slice a4 kids4.len cap4] 26) := ⟨_, rfl⟩
      have hw34 : Kept [] w3 W4 := by rw [hW4]; exact (Kept.refl [] w3).alloc _
      have hK6 : Kept [] w2 W4 := by rw [hW4]; exact hK4.alloc _
      have hb7 : W4.heap[w3.heap.size]? = some (.cells #[.int .i64 nv.k, .int .i64 nv.i, .int .i64 nv.g, .float .f64 r4, .string nv.s, .slice ka4 nv.keys.length kc4, .slice a4 kids4.len cap4] 26 (0, 0)) := by rw [hW4]; exact heap_at rfl
      have hK7 : Kept [b] wr W4 := Kept.trans (Kept.trans ((Kept.refl [] wr).alloc _) hK3 (Z := [b]) (by simp) (fun _ h _ => h)) hK6 (fun _ h => h) (by simp)
      rw [← hW4]
      obtain ⟨G, cs, h1, h2, h3, h4, h5, h6⟩ := (HTW.out.kept hK7 hb2).ex
      have hws : w3.heap.size < W4.heap.size := lt_of_block hb7
      have hst := Rg.start (T := 4) (.bool says) [.int .i64 nv.k, .int .i64 nv.i, .int .i64 nv.g, .float .f64 r4, .string nv.s, .slice ka4 nv.keys.length kc4, .slice a4 kids4.len cap4] h1 h2 h4 (by have := hK.size; have := hK7.size; omega : w1.heap.size ≤ W4.heap.size)
      have hC7 : ∀ W, Kept (u5.ownBlock.toList ++ u6.ownBlock.toList) W4 W → (W.cell? ⟨w3.heap.size, 0, none⟩ = some (.int .i64 nv.k) ∧ W.cell? ⟨w3.heap.size, 1, none⟩ = some (.int .i64 nv.i) ∧ W.cell? ⟨w3.heap.size, 2, none⟩ = some (.int .i64 nv.g) ∧ W.cell? ⟨w3.heap.size, 3, none⟩ = some (.float .f64 r4) ∧
          W.cell? ⟨w3.heap.size, 4, none⟩ = some (.string nv.s) ∧ W.cell? ⟨w3.heap.size, 5, none⟩ = some (.slice ka4 nv.keys.length kc4) ∧ W.cell? ⟨w3.heap.size, 6, none⟩ = some (.slice a4 kids4.len cap4)) := fun W hW => by
        have e : ∀ p, W.cell? ⟨w3.heap.size, p, none⟩ = W4.cell? ⟨w3.heap.size, p, none⟩ := fun p => hW.cell hws fun hm => by
          have hl : ∀ x, Own2 u5 u6 x → x < wr.heap.size := fun x hx => (HTW.out.own hx).2
          have hx : Own2 u5 u6 w3.heap.size := by
            rcases List.mem_append.1 hm with h | h
            · exact .inl (by simpa using h)
            · exact .inr (by simpa using h)
          have := hl _ hx
          have := hK3.size
          have := hK4.size
          simp at *
          omega
        obtain ⟨⟨e0, e1, e2, e3, e4, e5, e6⟩, _⟩ := seven hb7
        exact ⟨(e _).trans e0, (e _).trans e1, (e _).trans e2, (e _).trans e3, (e _).trans e4, (e _).trans e5, (e _).trans e6⟩
      have hbsl : bs.length ≤ 2147483647 := by have := HBL.out; omega
      have HC7 := Lib.hid hC7; have HF3 := Lib.hid h3; have HG5 := Lib.hid h5; have HG6 := Lib.hid h6; clear hC7 h3 h5 h6 h1 h2 h4 hb7 t0 t1 t2 t3 t4 t5 t6 t7 t8 hW4
      refine wp_region_noPanic ?_
      refine wp_region_T (C := fun W => W.cell? ⟨w3.heap.size, 0, none⟩ = some (.int .i64 nv.k) ∧ W.cell? ⟨w3.heap.size, 1, none⟩ = some (.int .i64 nv.i) ∧ W.cell? ⟨w3.heap.size, 2, none⟩ = some (.int .i64 nv.g) ∧ W.cell? ⟨w3.heap.size, 3, none⟩ = some (.float .f64 r4) ∧
          W.cell? ⟨w3.heap.size, 4, none⟩ = some (.string nv.s) ∧ W.cell? ⟨w3.heap.size, 5, none⟩ = some (.slice ka4 nv.keys.length kc4) ∧ W.cell? ⟨w3.heap.size, 6, none⟩ = some (.slice a4 kids4.len cap4)) (D := fun _ => True) (st := 100) (by kernel_rfl) ⟨HC7.out _ (Kept.refl _ _).drew, fun _ => trivial⟩ (fun hH => ?_)
      refine wpT_takeC (i := 0) (v := ?_) rfl (by kernel_rfl) (by kernel_rfl) (by kernel_rfl) (by kernel_rfl) (by kernel_rfl) (fun _ _ _ h => h) (Or.inl ⟨by rfl, ?_⟩) (by assumption) ?_
      rotate_left 1
      · intro W hSw
        (try dsimp only at hSw)
        go_simp
        (try with_reducible rfl)
      (try simp only [Act.put, List.getElem_toArray, List.getElem_cons_zero, List.setIfInBounds_toArray, List.set_cons_zero, List.set_cons_succ])
      refine wpT_takeC (i := 1) (v := ?_) rfl (by kernel_rfl) (by kernel_rfl) (by kernel_rfl) (by kernel_rfl) (by kernel_rfl) (fun _ _ _ h => h) (Or.inl ⟨by rfl, ?_⟩) (by assumption) ?_
      rotate_left 1
      · intro W hSw
        (try dsimp only at hSw)
        go_simp
        (try with_reducible rfl)
      (try simp only [Act.put, List.getElem_toArray, List.getElem_cons_succ, List.getElem_cons_zero, List.setIfInBounds_toArray, List.set_cons_zero, List.set_cons_succ])
      refine wpT_takeC (i := 4) (v := ?_) rfl (by kernel_rfl) (by kernel_rfl) (by kernel_rfl) (by kernel_rfl) (by kernel_rfl) (fun _ _ _ h => h) (Or.inl ⟨by rfl, ?_⟩) (by assumption) ?_
      rotate_left 1
      · intro W hSw
        (try dsimp only at hSw)
        go_simp
        (try with_reducible rfl)
      (try simp only [Act.put, List.getElem_toArray, List.getElem_cons_succ, List.getElem_cons_zero, List.setIfInBounds_toArray, List.set_cons_zero, List.set_cons_succ])
      refine wpT_takeC (i := 5) (v := ?_) rfl (by kernel_rfl) (by kernel_rfl) (by kernel_rfl) (by kernel_rfl) (by kernel_rfl) (fun _ _ _ h => h) (Or.inl ⟨by rfl, ?_⟩) (by assumption) ?_
      rotate_left 1
      · intro W hSw
        (try dsimp only at hSw)
        go_simp
        (try with_reducible rfl)
      (try simp only [Act.put, List.getElem_toArray, List.getElem_cons_succ, List.getElem_cons_zero, List.setIfInBounds_toArray, List.set_cons_zero, List.set_cons_succ])
      refine wpT_ready (rs := [2, 6]) (by kernel_rfl) (by simp) ?_
      refine AllT.cons rfl (fun K hK => ?_) (AllT.cons rfl (fun K hK => ?_) AllT.nil)
      · skip
        clear hH
        go_simp
        refine hK.out _ _ ⟨HC7.out _ (by repeat (first | with_reducible exact hst.keep | with_reducible exact Kept.refl _ _ | with_reducible refine Kept.drew ?_ | with_reducible refine Kept.alloc ?_ _)), fun _ => trivial⟩ (fun hH => ?_)
        clear hK K
        (try simp only [Act.put, List.getElem_toArray, List.getElem_cons_succ, List.getElem_cons_zero, List.setIfInBounds_toArray, List.set_cons_zero, List.set_cons_succ])
        refine wpT_ready (rs := [3, 6]) (by kernel_rfl) (by simp) ?_
        refine AllT.cons rfl (fun K hK => ?_) (AllT.cons rfl (fun K hK => ?_) AllT.nil)
        · skip
          clear hH
          apply stepT
          (case hgd => rfl)
          (case ho => rfl)
          (case hR => (repeat (first | with_reducible exact hst | with_reducible apply Rg.drew | apply Rg.allocK | apply Rg.allocI)))
          (case hs => rfl)
          (case hx => rfl)
          (case hb => simp)
          (case h1 => rfl)
          (case hn => omega)
          all_goals skip
          intro g1 cap1 w9 hst
          refine hK.out _ _ ⟨HC7.out _ (by repeat (first | with_reducible exact hst.keep | with_reducible exact Kept.refl _ _ | with_reducible refine Kept.drew ?_ | with_reducible refine Kept.alloc ?_ _)), fun _ => trivial⟩ (fun hH => ?_)
          clear hK K
          (try simp only [Act.put, List.getElem_toArray, List.getElem_cons_succ, List.getElem_cons_zero, List.setIfInBounds_toArray, List.set_cons_zero, List.set_cons_succ])
          refine wpT_ready (rs := [6]) (by kernel_rfl) (by simp) ?_
          refine AllT.cons rfl (fun K hK => ?_) AllT.nil
          clear hH
          go_simp
          refine hK.out _ _ ⟨HC7.out _ (by repeat (first | with_reducible exact hst.keep | with_reducible exact Kept.refl _ _ | with_reducible refine Kept.drew ?_ | with_reducible refine Kept.alloc ?_ _)), fun _ => trivial⟩ (fun hH => ?_)
          clear hK K
          (try simp only [Act.put, List.getElem_toArray, List.getElem_cons_succ, List.getElem_cons_zero, List.setIfInBounds_toArray, List.set_cons_zero, List.set_cons_succ])
          refine wpT_ready (rs := [7]) (by kernel_rfl) (by simp) ?_
          refine AllT.cons rfl (fun K hK => ?_) AllT.nil
          clear hH
          apply stepI
          (case hgd => rfl)
          (case ho => rfl)
          (case hR => (repeat (first | with_reducible exact hst | with_reducible apply Rg.drew | apply Rg.allocK | apply Rg.allocI)))
          (case hs => rfl)
          (case hx => rfl)
          (case hb => simp)
          (case hl => rfl)
          (case h1 => simp [Value.oneCell'])
          (case hn => omega)
          all_goals skip
          intro g2 cap2 w9 hst
          refine hK.out _ _ ⟨HC7.out _ (by repeat (first | with_reducible exact hst.keep | with_reducible exact Kept.refl _ _ | with_reducible refine Kept.drew ?_ | with_reducible refine Kept.alloc ?_ _)), fun _ => trivial⟩ (fun hH => ?_)
          clear hK K
          (try simp only [Act.put, List.getElem_toArray, List.getElem_cons_succ, List.getElem_cons_zero, List.setIfInBounds_toArray, List.set_cons_zero, List.set_cons_succ])
          refine wpT_takeC (i := 8) (v := ?_) rfl (by kernel_rfl) (by kernel_rfl) (by kernel_rfl) (by kernel_rfl) (by kernel_rfl) (fun _ _ _ h => h) (Or.inl ⟨by rfl, ?_⟩) (by assumption) ?_
          rotate_left 1
          · intro W hSw
            (try dsimp only at hSw)
            go_simp
            (try with_reducible rfl)
          (try simp only [Act.put, List.getElem_toArray, List.getElem_cons_succ, List.getElem_cons_zero, List.setIfInBounds_toArray, List.set_cons_zero, List.set_cons_succ])
          refine wpT_takeC (i := 9) (v := ?_) rfl (by kernel_rfl) (by kernel_rfl) (by kernel_rfl) (by kernel_rfl) (by kernel_rfl) (fun _ _ _ h => h) (Or.inl ⟨by rfl, ?_⟩) (by assumption) ?_
          rotate_left 1
          · intro W hSw
            (try dsimp only at hSw)
            go_simp
            (try with_reducible rfl)
          (try simp only [Act.put, List.getElem_toArray, List.getElem_cons_succ, List.getElem_cons_zero, List.setIfInBounds_toArray, List.set_cons_zero, List.set_cons_succ])
          refine wpT_done (by kernel_rfl) ?_ _
          refine NoPanic.normal ?_
          have hrow := (HR2.out.kept hK6).rows hst (fun x hx => by have := (HTW.out.own hx).1; omega)
          have hge : ∀ x ∈ u5.ownBlock.toList ++ u6.ownBlock.toList, Own2 u5 u6 x := fun x hx => by
            rcases List.mem_append.1 hx with h | h
            · exact .inl (by simpa using h)
            · exact .inr (by simpa using h)
          have hK9 := Kept.trans (Kept.trans hK hK7 (Z := [b]) (fun _ h => h) (fun _ h _ => h)) hst.keep (Z := [b]) (fun _ h => h) (fun x hx hl => by have := (HTW.out.own (hge x hx)).1; omega)
          have htw := Two.more (b := b) (n := ⟨nv.k, nv.i, nv.g, r4, nv.s, nv.keys, kids4⟩) rfl hst rfl rfl HF3.out HG5.out (hn4.kept hw34 (fun x hx => by rcases hx with h | ⟨_, h⟩; omega; exact ⟨h, by simp⟩)) (fun x hx => by
            have hx2 : w2.heap.size ≤ x ∧ x < w3.heap.size := by rcases hx with h | h; omega; exact h
            have hlo : ∀ z, Own2 u5 u6 z → z < w2.heap.size := fun z hz => Nat.lt_of_lt_of_le (HTW.out.own hz).2 (Nat.le_trans (by simp) hK3.size)
            exact ⟨by omega, by have := hK.size; have := hK3.size; simp at this; omega, fun h => by have := hlo x (.inl h); omega, fun h => by have := hlo x (.inr h); omega⟩) HG6.out (fun x hx => by
            have h1 : w2.heap.size ≤ x := by rcases hx with h | h; omega; exact h.1
            have := hK.size; have := hK3.size; simp at this; omega)
          have hrs : Res ss told v (bs ++ [says]) (vs ++ [⟨nv.k, nv.i, nv.g, r4, nv.s, nv.keys, kids4⟩]) := HRS.out.more (fun hj ho => by have e := HBL.out; simp only [e] at ho ⊢; exact HSY.out ho) (fun hj ho => by
            have e := HBL.out
            simp only [e] at ho ⊢
            rw [← HNV.out ho]
            exact ⟨rfl, rfl, rfl, hr4, rfl, rfl, hsf4⟩)
          have HRW := Lib.hid hrow; have HTW2 := Lib.hid htw; have HRS2 := Lib.hid hrs; clear hrow htw hrs hst
          go_wp2_with fail
          exact ⟨⟨j + 1, bs ++ [says], vs ++ [_], by go_num, by omega, by simp [HBL.out], hK9, HRW.out, HTW2.out, HRS2.out⟩, by simp [intOf]; omega⟩
        · skip
          clear hH
          go_simp
          refine hK.out _ _ ⟨HC7.out _ (by repeat (first | with_reducible exact hst.keep | with_reducible exact Kept.refl _ _ | with_reducible refine Kept.drew ?_ | with_reducible refine Kept.alloc ?_ _)), fun _ => trivial⟩ (fun hH => ?_)
          clear hK K
          (try simp only [Act.put, List.getElem_toArray, List.getElem_cons_succ, List.getElem_cons_zero, List.setIfInBounds_toArray, List.set_cons_zero, List.set_cons_succ])
          refine wpT_ready (rs := [3]) (by kernel_rfl) (by simp) ?_
          refine AllT.cons rfl (fun K hK => ?_) AllT.nil
          clear hH
          apply stepT
          (case hgd => rfl)
          (case ho => rfl)
          (case hR => (repeat (first | with_reducible exact hst | with_reducible apply Rg.drew | apply Rg.allocK | apply Rg.allocI)))
          (case hs => rfl)
          (case hx => rfl)
          (case hb => simp)
          (case h1 => rfl)
          (case hn => omega)
          all_goals skip
          intro g1 cap1 w9 hst
          refine hK.out _ _ ⟨HC7.out _ (by repeat (first | with_reducible exact hst.keep | with_reducible exact Kept.refl _ _ | with_reducible refine Kept.drew ?_ | with_reducible refine Kept.alloc ?_ _)), fun _ => trivial⟩ (fun hH => ?_)
          clear hK K
          (try simp only [Act.put, List.getElem_toArray, List.getElem_cons_succ, List.getElem_cons_zero, List.setIfInBounds_toArray, List.set_cons_zero, List.set_cons_succ])
          refine wpT_ready (rs := [7]) (by kernel_rfl) (by simp) ?_
          refine AllT.cons rfl (fun K hK => ?_) AllT.nil
          clear hH
          apply stepI
          (case hgd => rfl)
          (case ho => rfl)
          (case hR => (repeat (first | with_reducible exact hst | with_reducible apply Rg.drew | apply Rg.allocK | apply Rg.allocI)))
          (case hs => rfl)
          (case hx => rfl)
          (case hb => simp)
          (case hl => rfl)
          (case h1 => simp [Value.oneCell'])
          (case hn => omega)
          all_goals skip
          intro g2 cap2 w9 hst
          refine hK.out _ _ ⟨HC7.out _ (by repeat (first | with_reducible exact hst.keep | with_reducible exact Kept.refl _ _ | with_reducible refine Kept.drew ?_ | with_reducible refine Kept.alloc ?_ _)), fun _ => trivial⟩ (fun hH => ?_)
          clear hK K
          (try simp only [Act.put, List.getElem_toArray, List.getElem_cons_succ, List.getElem_cons_zero, List.setIfInBounds_toArray, List.set_cons_zero, List.set_cons_succ])
          refine wpT_takeC (i := 8) (v := ?_) rfl (by kernel_rfl) (by kernel_rfl) (by kernel_rfl) (by kernel_rfl) (by kernel_rfl) (fun _ _ _ h => h) (Or.inl ⟨by rfl, ?_⟩) (by assumption) ?_
          rotate_left 1
          · intro W hSw
            (try dsimp only at hSw)
            go_simp
            (try with_reducible rfl)
          (try simp only [Act.put, List.getElem_toArray, List.getElem_cons_succ, List.getElem_cons_zero, List.setIfInBounds_toArray, List.set_cons_zero, List.set_cons_succ])
          refine wpT_takeC (i := 9) (v := ?_) rfl (by kernel_rfl) (by kernel_rfl) (by kernel_rfl) (by kernel_rfl) (by kernel_rfl) (fun _ _ _ h => h) (Or.inl ⟨by rfl, ?_⟩) (by assumption) ?_
          rotate_left 1
          · intro W hSw
            (try dsimp only at hSw)
            go_simp
            (try with_reducible rfl)
          (try simp only [Act.put, List.getElem_toArray, List.getElem_cons_succ, List.getElem_cons_zero, List.setIfInBounds_toArray, List.set_cons_zero, List.set_cons_succ])
          refine wpT_done (by kernel_rfl) ?_ _
          refine NoPanic.normal ?_
          have hrow := (HR2.out.kept hK6).rows hst (fun x hx => by have := (HTW.out.own hx).1; omega)
          have hge : ∀ x ∈ u5.ownBlock.toList ++ u6.ownBlock.toList, Own2 u5 u6 x := fun x hx => by
            rcases List.mem_append.1 hx with h | h
            · exact .inl (by simpa using h)
            · exact .inr (by simpa using h)
          have hK9 := Kept.trans (Kept.trans hK hK7 (Z := [b]) (fun _ h => h) (fun _ h _ => h)) hst.keep (Z := [b]) (fun _ h => h) (fun x hx hl => by have := (HTW.out.own (hge x hx)).1; omega)
          have htw := Two.more (b := b) (n := ⟨nv.k, nv.i, nv.g, r4, nv.s, nv.keys, kids4⟩) rfl hst rfl rfl HF3.out HG5.out (hn4.kept hw34 (fun x hx => by rcases hx with h | ⟨_, h⟩; omega; exact ⟨h, by simp⟩)) (fun x hx => by
            have hx2 : w2.heap.size ≤ x ∧ x < w3.heap.size := by rcases hx with h | h; omega; exact h
            have hlo : ∀ z, Own2 u5 u6 z → z < w2.heap.size := fun z hz => Nat.lt_of_lt_of_le (HTW.out.own hz).2 (Nat.le_trans (by simp) hK3.size)
            exact ⟨by omega, by have := hK.size; have := hK3.size; simp at this; omega, fun h => by have := hlo x (.inl h); omega, fun h => by have := hlo x (.inr h); omega⟩) HG6.out (fun x hx => by
            have h1 : w2.heap.size ≤ x := by rcases hx with h | h; omega; exact h.1
            have := hK.size; have := hK3.size; simp at this; omega)
          have hrs : Res ss told v (bs ++ [says]) (vs ++ [⟨nv.k, nv.i, nv.g, r4, nv.s, nv.keys, kids4⟩]) := HRS.out.more (fun hj ho => by have e := HBL.out; simp only [e] at ho ⊢; exact HSY.out ho) (fun hj ho => by
            have e := HBL.out
            simp only [e] at ho ⊢
            rw [← HNV.out ho]
            exact ⟨rfl, rfl, rfl, hr4, rfl, rfl, hsf4⟩)
          have HRW := Lib.hid hrow; have HTW2 := Lib.hid htw; have HRS2 := Lib.hid hrs; clear hrow htw hrs hst
          go_wp2_with fail
          exact ⟨⟨j + 1, bs ++ [says], vs ++ [_], by go_num, by omega, by simp [HBL.out], hK9, HRW.out, HTW2.out, HRS2.out⟩, by simp [intOf]; omega⟩
      · skip
        clear hH
        go_simp
        refine hK.out _ _ ⟨HC7.out _ (by repeat (first | with_reducible exact hst.keep | with_reducible exact Kept.refl _ _ | with_reducible refine Kept.drew ?_ | with_reducible refine Kept.alloc ?_ _)), fun _ => trivial⟩ (fun hH => ?_)
        clear hK K
        (try simp only [Act.put, List.getElem_toArray, List.getElem_cons_succ, List.getElem_cons_zero, List.setIfInBounds_toArray, List.set_cons_zero, List.set_cons_succ])
        refine wpT_ready (rs := [2]) (by kernel_rfl) (by simp) ?_
        refine AllT.cons rfl (fun K hK => ?_) AllT.nil
        clear hH
        go_simp
        refine hK.out _ _ ⟨HC7.out _ (by repeat (first | with_reducible exact hst.keep | with_reducible exact Kept.refl _ _ | with_reducible refine Kept.drew ?_ | with_reducible refine Kept.alloc ?_ _)), fun _ => trivial⟩ (fun hH => ?_)
        clear hK K
        (try simp only [Act.put, List.getElem_toArray, List.getElem_cons_succ, List.getElem_cons_zero, List.setIfInBounds_toArray, List.set_cons_zero, List.set_cons_succ])
        refine wpT_ready (rs := [3]) (by kernel_rfl) (by simp) ?_
        refine AllT.cons rfl (fun K hK => ?_) AllT.nil
        clear hH
        apply stepT
        (case hgd => rfl)
        (case ho => rfl)
        (case hR => (repeat (first | with_reducible exact hst | with_reducible apply Rg.drew | apply Rg.allocK | apply Rg.allocI)))
        (case hs => rfl)
        (case hx => rfl)
        (case hb => simp)
        (case h1 => rfl)
        (case hn => omega)
        all_goals skip
        intro g1 cap1 w9 hst
        refine hK.out _ _ ⟨HC7.out _ (by repeat (first | with_reducible exact hst.keep | with_reducible exact Kept.refl _ _ | with_reducible refine Kept.drew ?_ | with_reducible refine Kept.alloc ?_ _)), fun _ => trivial⟩ (fun hH => ?_)
        clear hK K
        (try simp only [Act.put, List.getElem_toArray, List.getElem_cons_succ, List.getElem_cons_zero, List.setIfInBounds_toArray, List.set_cons_zero, List.set_cons_succ])
        refine wpT_ready (rs := [7]) (by kernel_rfl) (by simp) ?_
        refine AllT.cons rfl (fun K hK => ?_) AllT.nil
        clear hH
        apply stepI
        (case hgd => rfl)
        (case ho => rfl)
        (case hR => (repeat (first | with_reducible exact hst | with_reducible apply Rg.drew | apply Rg.allocK | apply Rg.allocI)))
        (case hs => rfl)
        (case hx => rfl)
        (case hb => simp)
        (case hl => rfl)
        (case h1 => simp [Value.oneCell'])
        (case hn => omega)
        all_goals skip
        intro g2 cap2 w9 hst
        refine hK.out _ _ ⟨HC7.out _ (by repeat (first | with_reducible exact hst.keep | with_reducible exact Kept.refl _ _ | with_reducible refine Kept.drew ?_ | with_reducible refine Kept.alloc ?_ _)), fun _ => trivial⟩ (fun hH => ?_)
        clear hK K
        (try simp only [Act.put, List.getElem_toArray, List.getElem_cons_succ, List.getElem_cons_zero, List.setIfInBounds_toArray, List.set_cons_zero, List.set_cons_succ])
        refine wpT_takeC (i := 8) (v := ?_) rfl (by kernel_rfl) (by kernel_rfl) (by kernel_rfl) (by kernel_rfl) (by kernel_rfl) (fun _ _ _ h => h) (Or.inl ⟨by rfl, ?_⟩) (by assumption) ?_
        rotate_left 1
        · intro W hSw
          (try dsimp only at hSw)
          go_simp
          (try with_reducible rfl)
        (try simp only [Act.put, List.getElem_toArray, List.getElem_cons_succ, List.getElem_cons_zero, List.setIfInBounds_toArray, List.set_cons_zero, List.set_cons_succ])
        refine wpT_takeC (i := 9) (v := ?_) rfl (by kernel_rfl) (by kernel_rfl) (by kernel_rfl) (by kernel_rfl) (by kernel_rfl) (fun _ _ _ h => h) (Or.inl ⟨by rfl, ?_⟩) (by assumption) ?_
        rotate_left 1
        · intro W hSw
          (try dsimp only at hSw)
          go_simp
          (try with_reducible rfl)
        (try simp only [Act.put, List.getElem_toArray, List.getElem_cons_succ, List.getElem_cons_zero, List.setIfInBounds_toArray, List.set_cons_zero, List.set_cons_succ])
        refine wpT_done (by kernel_rfl) ?_ _
        refine NoPanic.normal ?_
        have hrow := (HR2.out.kept hK6).rows hst (fun x hx => by have := (HTW.out.own hx).1; omega)
        have hge : ∀ x ∈ u5.ownBlock.toList ++ u6.ownBlock.toList, Own2 u5 u6 x := fun x hx => by
          rcases List.mem_append.1 hx with h | h
          · exact .inl (by simpa using h)
          · exact .inr (by simpa using h)
        have hK9 := Kept.trans (Kept.trans hK hK7 (Z := [b]) (fun _ h => h) (fun _ h _ => h)) hst.keep (Z := [b]) (fun _ h => h) (fun x hx hl => by have := (HTW.out.own (hge x hx)).1; omega)
        have htw := Two.more (b := b) (n := ⟨nv.k, nv.i, nv.g, r4, nv.s, nv.keys, kids4⟩) rfl hst rfl rfl HF3.out HG5.out (hn4.kept hw34 (fun x hx => by rcases hx with h | ⟨_, h⟩; omega; exact ⟨h, by simp⟩)) (fun x hx => by
          have hx2 : w2.heap.size ≤ x ∧ x < w3.heap.size := by rcases hx with h | h; omega; exact h
          have hlo : ∀ z, Own2 u5 u6 z → z < w2.heap.size := fun z hz => Nat.lt_of_lt_of_le (HTW.out.own hz).2 (Nat.le_trans (by simp) hK3.size)
          exact ⟨by omega, by have := hK.size; have := hK3.size; simp at this; omega, fun h => by have := hlo x (.inl h); omega, fun h => by have := hlo x (.inr h); omega⟩) HG6.out (fun x hx => by
          have h1 : w2.heap.size ≤ x := by rcases hx with h | h; omega; exact h.1
          have := hK.size; have := hK3.size; simp at this; omega)
        have hrs : Res ss told v (bs ++ [says]) (vs ++ [⟨nv.k, nv.i, nv.g, r4, nv.s, nv.keys, kids4⟩]) := HRS.out.more (fun hj ho => by have e := HBL.out; simp only [e] at ho ⊢; exact HSY.out ho) (fun hj ho => by
          have e := HBL.out
          simp only [e] at ho ⊢
          rw [← HNV.out ho]
          exact ⟨rfl, rfl, rfl, hr4, rfl, rfl, hsf4⟩)
        have HRW := Lib.hid hrow; have HTW2 := Lib.hid htw; have HRS2 := Lib.hid hrs; clear hrow htw hrs hst
        go_wp2_with fail
        exact ⟨⟨j + 1, bs ++ [says], vs ++ [_], by go_num, by omega, by simp [HBL.out], hK9, HRW.out, HTW2.out, HRS2.out⟩, by simp [intOf]; omega⟩
    · have hjl : j = ss.length := by omega
      subst hjl
      obtain ⟨hdo, hdl⟩ := HH.out.dok H0.out ss.length (Nat.le_refl _)
      have htell := (tell_node 8 0 0 0 ⟨#[]⟩ (d ss.length).keys (d ss.length).kids) _ (.iface 61 (.map (some b))) wr (HRJ.out.ob hdo (by have := HLB.out; omega)) (fun x hx => by
        rcases hx with h | h
        · have := hK.size; omega
        · exact h.2.1) hdo.ok1
      have HT := Lib.hid htell; clear htell hdo hdl
      go_wp2_with fail
      refine HT.out.mono ?_
      rintro e w3 ⟨hK4, r4, ka4, kc4, a4, cap4, kids4, rfl, hn4, hr4, hsf4⟩
      have hRr := (hK4.block _ (Nat.lt_of_lt_of_le (lt_of_block HRc.out) (Nat.le_trans hK1.size hK.size)) (by simp)).trans ((hK.block _ (Nat.lt_of_lt_of_le (lt_of_block HRc.out) hK1.size) (by have := lt_of_block HRc.out; simp only [List.mem_singleton]; omega)).trans ((hK1.block _ (lt_of_block HRc.out) (by simp)).trans HRc.out))
      obtain ⟨⟨r0, r1', r2, r3, r4', r5, r6⟩, q0, q1, q2, q3, q4, q5, q6⟩ := seven hRr
      have HN4 := Lib.hid hn4; have HSF := Lib.hid hsf4; have HR4 := Lib.hid hr4; have HRr := Lib.hid hRr; clear hn4 hsf4 hr4 hRr
      go_upto_region 15 with fail
      obtain ⟨W5, hW5⟩ : ∃ W5, W5 = ((((((w3.setCell ⟨w.heap.size + 1, 0, none⟩ (.int .i64 8)).setCell ⟨w.heap.size + 1, 1, none⟩ (.int .i64 0)).setCell ⟨w.heap.size + 1, 2, none⟩ (.int .i64 0)).setCell ⟨w.heap.size + 1, 3, none⟩ (.float .f64 r4)).setCell ⟨w.heap.size + 1, 4, none⟩ (.string ⟨#[]⟩)).setCell ⟨w.heap.size + 1, 5, none⟩ (.slice ka4 (d ss.length).keys.length kc4)).setCell ⟨w.heap.size + 1, 6, none⟩ (.slice a4 kids4.len cap4) := ⟨_, rfl⟩
      have hK5 : Kept [w.heap.size + 1] w3 W5 := by rw [hW5]; exact kept7 (Kept.refl _ _) (.inr (by simp)) _ _ _ _ _ _ _
      have hR5 := set7 HRr.out (.int .i64 8) (.int .i64 0) (.int .i64 0) (.float .f64 r4) (.string ⟨#[]⟩) (.slice ka4 (d ss.length).keys.length kc4) (.slice a4 kids4.len cap4)
      rw [← hW5] at hR5
      rw [← hW5]
      clear hW5 r0 r1' r2 r3 r4' r5 r6 q0 q1 q2 q3 q4 q5 q6
      obtain ⟨⟨r0, r1', r2, r3, r4', r5, r6⟩, q0, q1, q2, q3, q4, q5, q6⟩ := seven hR5
      clear hR5
      go_wp2_with fail
      have hsz1 := lt_of_block HRc.out
      have hoff : ∀ n : Nat, (⟨w.heap.size + 1, 0, none⟩ : Addr).add n = ⟨w.heap.size + 1, n, none⟩ := fun n => addr0 _ _
      refine bodyPost_ret (v := .tuple #[.agg #[.int .i64 8, .int .i64 0, .int .i64 0, .float .f64 r4, .string ⟨#[]⟩, .slice ka4 (d ss.length).keys.length kc4, .slice a4 kids4.len cap4], u5, u6]) (by simp [results, Tryz.results18, go_sem, hoff, r0, r1', r2, r3, r4', r5, r6]) rfl ?_
      have hKx := kept7 (b := w.heap.size + 1) (Kept.refl [w.heap.size + 1] W5) (.inr (by simp)) (.int .i64 8) (.int .i64 0) (.int .i64 0) (.float .f64 r4) (.string ⟨#[]⟩) (.slice ka4 (d ss.length).keys.length kc4) (.slice a4 kids4.len cap4)
      obtain ⟨tb, tc, va, vc, rfl, rfl, hrow, hkids⟩ := HTW.out.out HRS.out.len (by have := HBL.out; omega)
      have hrl := lt_of_block HRc.out
      have e0 := hK0.size
      have e1 := hK1.size
      have e2 := hK.size
      have e3 := hK4.size
      have e5 := hK5.size
      have ex := hKx.size
      have hk5x := Kept.trans hK5 hKx (Z := [w.heap.size + 1]) (fun _ h => h) (fun _ h _ => h)
      have hkwx := Kept.trans hK4 hk5x (Z := [w.heap.size + 1]) (by simp) (fun _ h _ => h)
      have hkend := Kept.trans (Kept.trans (Kept.trans hK0 hK1 (Z := []) (by simp) (by simp)) hK (Z := []) (by simp) (fun x hx hl => by have := List.mem_singleton.1 hx; omega)) hkwx (Z := []) (by simp) (fun x hx hl => by have := List.mem_singleton.1 hx; omega)
      have hup : ∀ x, Fr 0 w1.heap.size wr.heap.size x → x < wr.heap.size ∧ x ∉ [w.heap.size + 1] := fun x hx => by
        rcases hx with h | ⟨h1, h2⟩
        · omega
        · exact ⟨h2, fun hm => by have := List.mem_singleton.1 hm; omega⟩
      refine ⟨hkend, r4, ka4, kc4, a4, cap4, kids4, bs, vs, tb, tc, va, vc, by rw [HBL.out], ?_, HR4.out, HSF.out, ?_, ?_, HBL.out, HRS.out⟩
      · refine (HN4.out.kept hk5x fun x hx => ?_).mono fun x hx => ?_
        · rcases hx with h | ⟨h1, h2⟩
          · omega
          · exact ⟨h2, fun hm => by have := List.mem_singleton.1 hm; omega⟩
        · rcases hx with h | ⟨h1, h2⟩
          · omega
          · exact .inr ⟨by omega, Nat.lt_of_lt_of_le h2 hk5x.size⟩
      · exact (hrow.kept hkwx hup).mono fun x hx => by
          rcases hx with h | ⟨h1, h2⟩
          · omega
          · exact .inr ⟨by omega, Nat.lt_of_lt_of_le h2 hkwx.size⟩
      · exact (hkids.kept hkwx hup).mono fun x hx => by
          rcases hx with h | ⟨h1, h2⟩
          · omega
          · exact .inr ⟨by omega, Nat.lt_of_lt_of_le h2 hkwx.size⟩
end Go.Proofs.YtfkecmlmnhbmoaaGreatDoor
