import Derived.Test.YtfkecmlmnhbmoaaGreatDoorDs35
namespace Go.Proofs.YtfkecmlmnhbmoaaGreatDoor
open Go.RowKit Go.Maps
theorem less_of {a b : ByteArray} (h : a.data.toList < b.data.toList) : Op.bytesLess a.toList b.toList = true := by
  rw [bytesLess_eq, ByteArray.toList_eq, ByteArray.toList_eq]; simpa using h
theorem less_not {a b : ByteArray} (h : ¬ a.data.toList < b.data.toList) : Op.bytesLess a.toList b.toList = false := by
  rw [bytesLess_eq, ByteArray.toList_eq, ByteArray.toList_eq]; simpa using h
structure DpL (L : List (ByteArray × Nd)) (key : ByteArray) (y : Nd) (O : Nat) (M : Bd) (w0 : World) (v8 v15 : Value) (wr : World) : Prop where
  ex : ∃ (j : Nat) (S : List (ByteArray × Nd)) (vk vi : Value) (done : Bool), v15 = .int .i64 j ∧ v8 = .bool done ∧ j ≤ L.length ∧ Kept [] w0 wr ∧ wr.heap[O]? = some (.cells #[.int .i64 8, .int .i64 0, .int .i64 0, .float .f64 0, .string ⟨#[]⟩, vk, vi] 26 (0, 0)) ∧ OutR (O + 1) M wr vk vi S ∧ PutI key y (L.take j) S done
set_option maxRecDepth 100000 in
set_option maxHeartbeats 8000000 in
theorem dictput (L : List (ByteArray × Nd)) (key : ByteArray) (y : Nd) (i g : Int) (r : Nat) (s : ByteArray) (N : Bd) (ka : Option Addr) (kc : Nat) (a : Option Addr) (cap : Nat) (kb : Option Addr) (kd : Nat) (ab : Option Addr) (capb : Nat) (w : World) (hd : DiOk (Di.of L)) (hn : Node (LtB N) w 8 i g r s (Di.of L).keys (Di.of L).kids ka kc a cap)
    (hy : Node (LtB N) w y.k y.i y.g y.r y.s y.keys y.kids kb kd ab capb) (hN : N.n ≤ w.heap.size) (hky : Simp key) (hyo : NdOk y) (hlb : L.length ≤ 1000000000000) :
    Calls Tryz.prog 34 #[.agg #[.int .i64 8, .int .i64 i, .int .i64 g, .float .f64 r, .string s, .slice ka (Di.of L).keys.length kc, .slice a (Di.of L).kids.len cap], .string key, .agg #[.int .i64 y.k, .int .i64 y.i, .int .i64 y.g, .float .f64 y.r, .string y.s, .slice kb y.keys.length kd, .slice ab y.kids.len capb]] w (DxE N (PutR (Di.of L) key y) w) := by
  obtain ⟨⟨⟨k1, k2⟩, ⟨i1, i2⟩, ⟨g1, g2⟩, r1, s1⟩, hkeys, hkids⟩ := hn
  have hkl : (Di.of L).keys.length = L.length := by simp [Di.of]
  have hil : (Di.of L).kids.len = L.length := by simp [Di.of, F.of_len]
  have hkz : key.size ≤ 140737488351232 := by have := hky.hi; omega
  rw [hkl, hil]
  obtain ⟨w0, hw0⟩ : ∃ w0, w0 = ((w.alloc (.cells #[.int .i64 8, .int .i64 i, .int .i64 g, .float .f64 r, .string s, .slice ka L.length kc, .slice a L.length cap] 26)).alloc (.cells #[.int .i64 y.k, .int .i64 y.i, .int .i64 y.g, .float .f64 y.r, .string y.s, .slice kb y.keys.length kd, .slice ab y.kids.len capb] 26)).alloc (.cells #[.int .i64 0, .int .i64 0, .int .i64 0, .float .f64 0, .string ⟨#[]⟩, .slice none 0 0, .slice none 0 0] 26) := ⟨_, rfl⟩
  have hK0 : Kept [] w w0 := by rw [hw0]; exact (((Kept.refl [] w).alloc _).alloc _).alloc _
  have hX : w0.heap[w.heap.size]? = some (.cells #[.int .i64 8, .int .i64 i, .int .i64 g, .float .f64 r, .string s, .slice ka L.length kc, .slice a L.length cap] 26 (0, 0)) := by rw [hw0, heap_lt (by simp; omega), heap_lt (by simp)]; exact heap_at rfl
  have hV : w0.heap[w.heap.size + 1]? = some (.cells #[.int .i64 y.k, .int .i64 y.i, .int .i64 y.g, .float .f64 y.r, .string y.s, .slice kb y.keys.length kd, .slice ab y.kids.len capb] 26 (0, 0)) := by rw [hw0, heap_lt (by simp)]; exact heap_at (by simp)
  have hRc : w0.heap[w.heap.size + 1 + 1]? = some (.cells #[.int .i64 0, .int .i64 0, .int .i64 0, .float .f64 0, .string ⟨#[]⟩, .slice none 0 0, .slice none 0 0] 26 (0, 0)) := by rw [hw0]; exact heap_at (by simp)
  have hkeys0 := hkeys.kept hK0 (ltkB hN (by simp))
  have hkids0 := hkids.kept hK0 (ltkB hN (by simp))
  have hy0 := hy.kept hK0 (ltkB hN (by simp))
  have HX := Lib.hid hX; have HV := Lib.hid hV; have HRc := Lib.hid hRc; have HKE := Lib.hid hkeys0; have HKI := Lib.hid hkids0; have HY := Lib.hid hy0; have HD := Lib.hid hd; have HKL := Lib.hid hkl; have HIL := Lib.hid hil; have HKZ := Lib.hid hkz; have HKY := Lib.hid hky; have HYO := Lib.hid hyo
  clear hX hV hRc hkeys0 hkids0 hy0 hkeys hkids hy hd hkl hil hkz hky hyo
  go_enter Tryz.func34, Tryz.ntmps34
  go_upto_region 1 with fail
  rw [← hw0]
  clear hw0
  go_upto_region 2 with fail
  obtain ⟨O, hO⟩ : ∃ O, O = w0.heap.size := ⟨_, rfl⟩
  obtain ⟨w1, hw1⟩ : ∃ w1, w1 = w0.alloc (.cells #[.int .i64 8, .int .i64 0, .int .i64 0, .float .f64 0, .string ⟨#[]⟩, .slice none 0 0, .slice none 0 0] 26) := ⟨_, rfl⟩
  have hK1 : Kept [] w0 w1 := by rw [hw1]; exact (Kept.refl [] w0).alloc _
  have hO1 : w1.heap[O]? = some (.cells #[.int .i64 8, .int .i64 0, .int .i64 0, .float .f64 0, .string ⟨#[]⟩, .slice none 0 0, .slice none 0 0] 26 (0, 0)) := by rw [hw1, hO]; exact heap_at rfl
  have hNO : N.n ≤ O := by rw [hO]; exact Nat.le_trans hN hK0.size
  have hRO : w.heap.size + 1 + 1 < O := by rw [hO]; exact lt_of_block HRc.out
  rw [← hw1, ← hO]
  have HO1 := Lib.hid hO1; have HOO := Lib.hid hO; clear hw1 hO1 hO
  have hX1 := (hK1.block w.heap.size (lt_of_block HX.out) (by simp)).trans HX.out
  obtain ⟨⟨c0, c1, c2, c3, c4, c5, c6⟩, _⟩ := seven hX1
  clear hX1
  go_wp2_with fail
  clear c0 c1 c2 c3 c4 c5 c6
  go_loopw [8, 9, 10, 15] (fun v8 _ _ v wr => DpL L key y O N w0 v8 v wr) (fun _ _ _ v _ => L.length - (intOf v).toNat)
  case atStart => exact ⟨0, [], _, _, false, rfl, rfl, by omega, hK1, HO1.out, OutR.nil _ _ _, by rw [List.take_zero]; exact PutI.nil key y⟩
  case round =>
    clear hK1 HO1
    obtain ⟨j, S, vk, vi, done, rfl, rfl, hj, hK, hOb, hout, hpi⟩ := hrel
    have hXr := (hK.block w.heap.size (lt_of_block HX.out) (by simp)).trans HX.out
    by_cases hlt : j < L.length
    · obtain ⟨b, o, rfl, hbN, hc, hsz⟩ := (HKE.out.kept hK (ltkB (Nat.le_trans hN hK0.size) (by simp))).2.2 j (by rw [HKL.out]; exact hlt)
      have hkj : (Di.of L).keys[j]'(by rw [HKL.out]; exact hlt) = (L[j]).1 := by simp [Di.of]
      rw [hkj] at hc hsz
      obtain ⟨⟨x0, x1, x2, x3, x4, x5, x6⟩, _⟩ := seven hXr
      clear hkj
      have HOb := Lib.hid hOb; have HOut := Lib.hid hout; have HPI := Lib.hid hpi; clear hOb hout hpi
      obtain ⟨b', o', k', i', g', r', s', keys', kids', ka', kc', a', cap', rfl, hbN', hdr, hcs, hnode⟩ := HKI.out.at (j := j) (by rw [HIL.out]; exact hlt)
      have hpj := Di.of_kid hlt hdr
      rw [Nat.mul_comm 7 j] at hcs
      have hbO : b' < O := by have : b' < N.n := hbN'.1
                              omega
      have htl := (Srt.of HD.out.asc).take_lt hlt
      have HPJ := Lib.hid hpj; have HC7 := Lib.hid hcs; have HND := Lib.hid hnode; have HTL := Lib.hid htl
      clear hpj hcs hnode htl hdr hXr
      have hsl : S.length ≤ L.length + 1 := by have := HPI.out.len; rw [List.length_take] at this; omega
      cases done
      · rcases lt_tri (L[j]).1 key with hkey | hkey | hkey
        · have hq := HPI.out.less hkey HTL.out
          have zl := less_not (fun h => List.lt_irrefl _ (lt_trans' h hkey))
          have zn := beq_not (lt_ne hkey)
          have zk := beq_not (lt_ne hkey).symm
          have HQ := Lib.hid hq; clear hq hkey
          go_wp2_with fail
          have hOb := HOb.out; have hout := HOut.out
          obtain ⟨hkr, ⟨cs, hir, hfl⟩, hne, hszS⟩ := hout
          obtain ⟨ak, ck, hvk⟩ := own_form hkr
          obtain ⟨ai, ci, hvi⟩ := own_form hir
          have hown : ∀ b, vk.ownBlock = some b ∨ vi.ownBlock = some b → O + 1 ≤ b := fun b hb => by
            rcases hb with hb | hb
            · exact (ownsRow_lt hkr hb).2
            · exact (ownsRow_lt hir hb).2
          have hOl := lt_of_block hOb
          have hZ : ∀ W, Kept (vk.ownBlock.toList ++ vi.ownBlock.toList) wr W → W.cell? ⟨O, 5, none⟩ = some (.slice ak S.length ck) ∧ W.cell? ⟨O, 6, none⟩ = some (.slice ai S.length ci) ∧ W.frozen? ⟨O, 5, none⟩ = false ∧ W.frozen? ⟨O, 6, none⟩ = false := fun W hW => by
            have hb := hW.block O hOl (fun hm => by have := hown O (by simpa using hm); omega)
            obtain ⟨⟨_, _, _, _, _, y5, y6⟩, _, _, _, _, _, q5, q6⟩ := seven hOb
            rw [hvk] at y5
            rw [hvi] at y6
            exact ⟨(World.cell?_of_block hb).trans y5, (World.cell?_of_block hb).trans y6, (World.frozen?_of_block hb).trans q5, (World.frozen?_of_block hb).trans q6⟩
          have hSM : ∀ W, Kept (vk.ownBlock.toList ++ vi.ownBlock.toList) wr W → Kept (O :: (vk.ownBlock.toList ++ vi.ownBlock.toList)) wr W := fun W h => h.mono fun x hx _ => List.mem_cons_of_mem _ hx
          have hE : ∀ W, Kept (O :: (vk.ownBlock.toList ++ vi.ownBlock.toList)) wr W → ∀ b p, b < O → W.cell? ⟨b, p, none⟩ = w0.cell? ⟨b, p, none⟩ := fun W hW b p hb => by
            have hin : ∀ x ∈ O :: (vk.ownBlock.toList ++ vi.ownBlock.toList), O ≤ x := fun x hx => by
              rcases List.mem_cons.1 hx with h | h
              · omega
              · have := hown x (by simpa using h); omega
            exact (hW.cell (by omega) fun hm => by have := hin _ hm; omega).trans (hK.cell (by have := HOO.out; omega) (by simp))
          have HSM := Lib.hid hSM; have HZ := Lib.hid hZ; have HE := Lib.hid hE; have HOW := Lib.hid hown; have HSZ := Lib.hid hszS; have HFL := Lib.hid hfl; have HB := Lib.hid hOb
          have HVK := Lib.hid hvk; have HVI := Lib.hid hvi; clear hvk hvi hSM hZ hE hown hszS hfl
          have hst := Rg.start (.string (L[j]).1) [.int .i64 k', .int .i64 i', .int .i64 g', .float .f64 r', .string s', .slice ka' keys'.length kc', .slice a' kids'.len cap'] hkr hir hne (by omega : O + 1 ≤ wr.heap.size)
          have hS : ∀ W, Kept (O :: (vk.ownBlock.toList ++ vi.ownBlock.toList)) wr W → (W.cell? ⟨w.heap.size, 6, none⟩ = some (.slice (some ⟨b', o', none⟩) L.length cap) ∧
              W.cell? ⟨b', o' + j * 7, none⟩ = some (.int .i64 k') ∧ W.cell? ⟨b', o' + j * 7 + 1, none⟩ = some (.int .i64 i') ∧ W.cell? ⟨b', o' + j * 7 + 2, none⟩ = some (.int .i64 g') ∧ W.cell? ⟨b', o' + j * 7 + 3, none⟩ = some (.float .f64 r') ∧
              W.cell? ⟨b', o' + j * 7 + 4, none⟩ = some (.string s') ∧ W.cell? ⟨b', o' + j * 7 + 5, none⟩ = some (.slice ka' keys'.length kc') ∧ W.cell? ⟨b', o' + j * 7 + 6, none⟩ = some (.slice a' kids'.len cap')) := fun W hW => by
            have e := HE.out W hW
            obtain ⟨⟨_, _, _, _, _, _, x6⟩, _⟩ := seven HX.out
            obtain ⟨d0, d1, d2, d3, d4, d5, d6⟩ := HC7.out
            exact ⟨(e _ _ (by omega)).trans x6, (e _ _ hbO).trans d0, (e _ _ hbO).trans d1, (e _ _ hbO).trans d2, (e _ _ hbO).trans d3, (e _ _ hbO).trans d4, (e _ _ hbO).trans d5, (e _ _ hbO).trans d6⟩
          have HS := Lib.hid hS; clear hS hkr hir hne hOb
          refine wp_region_noPanic ?_
          refine wp_region_T (C := fun W => W.cell? ⟨w.heap.size, 6, none⟩ = some (.slice (some ⟨b', o', none⟩) L.length cap) ∧
              W.cell? ⟨b', o' + j * 7, none⟩ = some (.int .i64 k') ∧ W.cell? ⟨b', o' + j * 7 + 1, none⟩ = some (.int .i64 i') ∧ W.cell? ⟨b', o' + j * 7 + 2, none⟩ = some (.int .i64 g') ∧ W.cell? ⟨b', o' + j * 7 + 3, none⟩ = some (.float .f64 r') ∧
              W.cell? ⟨b', o' + j * 7 + 4, none⟩ = some (.string s') ∧ W.cell? ⟨b', o' + j * 7 + 5, none⟩ = some (.slice ka' keys'.length kc') ∧ W.cell? ⟨b', o' + j * 7 + 6, none⟩ = some (.slice a' kids'.len cap'))
            (D := fun W => W.cell? ⟨O, 5, none⟩ = some (.slice ak S.length ck) ∧ W.cell? ⟨O, 6, none⟩ = some (.slice ai S.length ci) ∧ W.frozen? ⟨O, 5, none⟩ = false ∧ W.frozen? ⟨O, 6, none⟩ = false) (st := 15) (by kernel_rfl)
            ⟨HS.out _ (Kept.refl _ _).drew, fun _ => HZ.out _ (Kept.refl _ _).drew⟩ (fun hH => ?_)
          refine wpT_takeC (i := 0) (v := ?_) rfl (by kernel_rfl) (by kernel_rfl) (by kernel_rfl) (by kernel_rfl) (by kernel_rfl) (fun _ _ _ h => h) (Or.inl ⟨by rfl, ?_⟩) (by assumption) ?_
          rotate_left 1
          · intro W hSw
            (try dsimp only at hSw)
            go_simp
            (try with_reducible rfl)
          (try simp only [Act.put, List.setIfInBounds_toArray])
          refine wpT_takeD (i := 1) (v := ?_) rfl (by kernel_rfl) (by kernel_rfl) (by kernel_rfl) (by kernel_rfl) (by kernel_rfl) (fun _ _ _ h => h) (Or.inl ⟨by rfl, ?_⟩) (by assumption) ?_
          rotate_left 1
          · intro W hSw
            (try dsimp only at hSw)
            go_simp
            (try with_reducible rfl)
          (try simp only [Act.put])
          refine wpT_takeC (i := 2) (v := ?_) rfl (by kernel_rfl) (by kernel_rfl) (by kernel_rfl) (by kernel_rfl) (by kernel_rfl) (fun _ _ _ h => h) (Or.inl ⟨by rfl, ?_⟩) (by assumption) ?_
          rotate_left 1
          · intro W hSw
            (try dsimp only at hSw)
            go_simp
            (try with_reducible rfl)
          (try simp only [Act.put])
          refine wpT_takeC (i := 5) (v := ?_) rfl (by kernel_rfl) (by kernel_rfl) (by kernel_rfl) (by kernel_rfl) (by kernel_rfl) (fun _ _ _ h => h) (Or.inl ⟨by rfl, ?_⟩) (by assumption) ?_
          rotate_left 1
          · intro W hSw
            (try dsimp only at hSw)
            go_simp
            (try with_reducible rfl)
          (try simp only [Act.put])
          refine wpT_takeD (i := 6) (v := ?_) rfl (by kernel_rfl) (by kernel_rfl) (by kernel_rfl) (by kernel_rfl) (by kernel_rfl) (fun _ _ _ h => h) (Or.inl ⟨by rfl, ?_⟩) (by assumption) ?_
          rotate_left 1
          · intro W hSw
            (try dsimp only at hSw)
            go_simp
            (try with_reducible rfl)
          (try simp only [Act.put])
          refine wpT_takeC (i := 7) (v := ?_) rfl (by kernel_rfl) (by kernel_rfl) (by kernel_rfl) (by kernel_rfl) (by kernel_rfl) (fun _ _ _ h => h) (Or.inl ⟨by rfl, ?_⟩) (by assumption) ?_
          rotate_left 1
          · intro W hSw
            (try dsimp only at hSw)
            go_simp
            (try with_reducible rfl)
          (try simp only [Act.put])
          refine wpT_takeC (i := 8) (v := ?_) rfl (by kernel_rfl) (by kernel_rfl) (by kernel_rfl) (by kernel_rfl) (by kernel_rfl) (fun _ _ _ h => h) (Or.inl ⟨by rfl, ?_⟩) (by assumption) ?_
          rotate_left 1
          · intro W hSw
            (try dsimp only at hSw)
            go_simp
            (try with_reducible rfl)
          (try simp only [Act.put])
          refine wpT_takeC (i := 9) (v := ?_) rfl (by kernel_rfl) (by kernel_rfl) (by kernel_rfl) (by kernel_rfl) (by kernel_rfl) (fun _ _ _ h => h) (Or.inl ⟨by rfl, ?_⟩) (by assumption) ?_
          rotate_left 1
          · intro W hSw
            (try dsimp only at hSw)
            go_simp
            (try with_reducible rfl)
          (try simp only [Act.put])
          refine wpT_takeC (i := 10) (v := ?_) rfl (by kernel_rfl) (by kernel_rfl) (by kernel_rfl) (by kernel_rfl) (by kernel_rfl) (fun _ _ _ h => h) (Or.inl ⟨by rfl, ?_⟩) (by assumption) ?_
          rotate_left 1
          · intro W hSw
            (try dsimp only at hSw)
            go_simp
            (try with_reducible rfl)
          (try simp only [Act.put])
          refine wpT_takeC (i := 11) (v := ?_) rfl (by kernel_rfl) (by kernel_rfl) (by kernel_rfl) (by kernel_rfl) (by kernel_rfl) (fun _ _ _ h => h) (Or.inl ⟨by rfl, ?_⟩) (by assumption) ?_
          rotate_left 1
          · intro W hSw
            (try dsimp only at hSw)
            go_simp
            (try with_reducible rfl)
          (try simp only [Act.put])
          refine wpT_ready (rs := [3, 12]) (by kernel_rfl) (by simp) ?_
          refine AllT.cons rfl (fun K hK => ?_) (AllT.cons rfl (fun K hK => ?_) AllT.nil)
          · skip
            clear hH
            go_simp
            refine hK.out _ _ ⟨HS.out _ (HSM.out _ (by repeat (first | with_reducible exact hst.keep | with_reducible exact Kept.refl _ _ | with_reducible refine Kept.drew ?_ | with_reducible refine Kept.alloc ?_ _))), fun _ => HZ.out _ (by repeat (first | with_reducible exact hst.keep | with_reducible exact Kept.refl _ _ | with_reducible refine Kept.drew ?_ | with_reducible refine Kept.alloc ?_ _))⟩ (fun hH => ?_)
            clear hK K
            (try simp only [Act.put, List.setIfInBounds_toArray, List.set_cons_zero, List.set_cons_succ])
            refine wpT_ready (rs := [4, 12]) (by kernel_rfl) (by simp) ?_
            refine AllT.cons rfl (fun K hK => ?_) (AllT.cons rfl (fun K hK => ?_) AllT.nil)
            · skip
              clear hH
              apply stepK
              (case hgd => rfl)
              (case ho => rfl)
              (case hR => (repeat (first | with_reducible exact hst | with_reducible apply Rg.drew | apply Rg.allocK | apply Rg.allocI)))
              (case hs => (rw [HVK.out]; rfl))
              (case hx => rfl)
              (case hb => simp)
              (case h1 => rfl)
              (case hn => omega)
              all_goals skip
              intro g1 cap1 w9 hst
              refine hK.out _ _ ⟨HS.out _ (HSM.out _ (by repeat (first | with_reducible exact hst.keep | with_reducible exact Kept.refl _ _ | with_reducible refine Kept.drew ?_ | with_reducible refine Kept.alloc ?_ _))), fun _ => HZ.out _ (by repeat (first | with_reducible exact hst.keep | with_reducible exact Kept.refl _ _ | with_reducible refine Kept.drew ?_ | with_reducible refine Kept.alloc ?_ _))⟩ (fun hH => ?_)
              clear hK K
              (try simp only [Act.put, List.setIfInBounds_toArray])
              refine wpT_takeC (i := 14) (v := ?_) rfl (by kernel_rfl) (by kernel_rfl) (by kernel_rfl) (by kernel_rfl) (by kernel_rfl) (fun _ _ _ h => h) (Or.inl ⟨by rfl, ?_⟩) (by assumption) ?_
              rotate_left 1
              · intro W hSw
                (try dsimp only at hSw)
                go_simp
                (try with_reducible rfl)
              (try simp only [Act.put])
              refine wpT_ready (rs := [12]) (by kernel_rfl) (by simp) ?_
              refine AllT.cons rfl (fun K hK => ?_) AllT.nil
              clear hH
              go_simp
              refine hK.out _ _ ⟨HS.out _ (HSM.out _ (by repeat (first | with_reducible exact hst.keep | with_reducible exact Kept.refl _ _ | with_reducible refine Kept.drew ?_ | with_reducible refine Kept.alloc ?_ _))), fun _ => HZ.out _ (by repeat (first | with_reducible exact hst.keep | with_reducible exact Kept.refl _ _ | with_reducible refine Kept.drew ?_ | with_reducible refine Kept.alloc ?_ _))⟩ (fun hH => ?_)
              clear hK K
              (try simp only [Act.put, List.setIfInBounds_toArray, List.set_cons_zero, List.set_cons_succ])
              refine wpT_ready (rs := [13]) (by kernel_rfl) (by simp) ?_
              refine AllT.cons rfl (fun K hK => ?_) AllT.nil
              clear hH
              apply stepI
              (case hgd => rfl)
              (case ho => rfl)
              (case hR => (repeat (first | with_reducible exact hst | with_reducible apply Rg.drew | apply Rg.allocK | apply Rg.allocI)))
              (case hs => (rw [HVI.out]; rfl))
              (case hx => rfl)
              (case hb => simp)
              (case hl => rfl)
              (case h1 => simp [Value.oneCell'])
              (case hn => omega)
              all_goals skip
              intro g2 cap2 w9 hst
              obtain ⟨z5, z6, z7, z8⟩ := HZ.out _ hst.keep
              refine hK.out _ _ ⟨HS.out _ (HSM.out _ (by repeat (first | with_reducible exact hst.keep | with_reducible exact Kept.refl _ _ | with_reducible refine Kept.drew ?_ | with_reducible refine Kept.alloc ?_ _))), fun _ => HZ.out _ (by repeat (first | with_reducible exact hst.keep | with_reducible exact Kept.refl _ _ | with_reducible refine Kept.drew ?_ | with_reducible refine Kept.alloc ?_ _))⟩ (fun hH => ?_)
              clear hK K
              (try simp only [Act.put, List.setIfInBounds_toArray])
              refine wpT_ready (rs := [15]) (by kernel_rfl) (by simp) ?_
              refine AllT.cons rfl (fun K hK => ?_) AllT.nil
              clear hH
              go_simp
              refine hK.out _ _ ⟨HS.out _ (by repeat (first | with_reducible exact HSM.out _ hst.keep | with_reducible refine Kept.drew ?_ | with_reducible refine Kept.alloc ?_ _ | refine Kept.setCell ?_ (Or.inr (by simp)) _)), fun h => absurd h (by decide)⟩ (fun hH => ?_)
              clear hK K
              (try simp only [Act.put, List.setIfInBounds_toArray, List.set_cons_zero, List.set_cons_succ])
              refine wpT_takeC (i := 16) (v := ?_) rfl (by kernel_rfl) (by kernel_rfl) (by kernel_rfl) (by kernel_rfl) (by kernel_rfl) (fun _ _ _ h => h) (Or.inl ⟨by rfl, ?_⟩) (by assumption) ?_
              rotate_left 1
              · intro W hSw
                (try dsimp only at hSw)
                go_simp
                (try with_reducible rfl)
              (try simp only [Act.put, List.setIfInBounds_toArray])
              refine wpT_ready (rs := [17]) (by kernel_rfl) (by simp) ?_
              refine AllT.cons rfl (fun K hK => ?_) AllT.nil
              clear hH
              go_simp
              refine hK.out _ _ ⟨HS.out _ (by repeat (first | with_reducible exact HSM.out _ hst.keep | with_reducible refine Kept.drew ?_ | with_reducible refine Kept.alloc ?_ _ | refine Kept.setCell ?_ (Or.inr (by simp)) _)), fun h => absurd h (by decide)⟩ (fun hH => ?_)
              clear hK K
              (try simp only [Act.put, List.setIfInBounds_toArray, List.set_cons_zero, List.set_cons_succ])
              refine wpT_done (by kernel_rfl) ?_ _
              refine NoPanic.normal ?_
              have hput := put_round (y := (⟨k', i', g', r', s', keys', kids'⟩ : Nd)) hst rfl HB.out HOO.out.symm hNO hK HOW.out HFL.out (HND.out.kept hK (ltkB (Nat.le_trans hN hK0.size) (by simp))) hsz HSZ.out
              rw [← HPJ.out] at hput
              have HPU := Lib.hid hput; clear hput hst
              go_wp2_with fail
              exact ⟨⟨j + 1, S ++ [L[j]], _, _, _, by go_num, rfl, by omega, HPU.out.1, HPU.out.2.1, HPU.out.2.2, by rw [take_more hlt]; exact HQ.out⟩, by simp [intOf]; omega⟩
            · skip
              clear hH
              go_simp
              refine hK.out _ _ ⟨HS.out _ (HSM.out _ (by repeat (first | with_reducible exact hst.keep | with_reducible exact Kept.refl _ _ | with_reducible refine Kept.drew ?_ | with_reducible refine Kept.alloc ?_ _))), fun _ => HZ.out _ (by repeat (first | with_reducible exact hst.keep | with_reducible exact Kept.refl _ _ | with_reducible refine Kept.drew ?_ | with_reducible refine Kept.alloc ?_ _))⟩ (fun hH => ?_)
              clear hK K
              (try simp only [Act.put, List.setIfInBounds_toArray, List.set_cons_zero, List.set_cons_succ])
              refine wpT_ready (rs := [4]) (by kernel_rfl) (by simp) ?_
              refine AllT.cons rfl (fun K hK => ?_) AllT.nil
              clear hH
              apply stepK
              (case hgd => rfl)
              (case ho => rfl)
              (case hR => (repeat (first | with_reducible exact hst | with_reducible apply Rg.drew | apply Rg.allocK | apply Rg.allocI)))
              (case hs => (rw [HVK.out]; rfl))
              (case hx => rfl)
              (case hb => simp)
              (case h1 => rfl)
              (case hn => omega)
              all_goals skip
              intro g1 cap1 w9 hst
              refine hK.out _ _ ⟨HS.out _ (HSM.out _ (by repeat (first | with_reducible exact hst.keep | with_reducible exact Kept.refl _ _ | with_reducible refine Kept.drew ?_ | with_reducible refine Kept.alloc ?_ _))), fun _ => HZ.out _ (by repeat (first | with_reducible exact hst.keep | with_reducible exact Kept.refl _ _ | with_reducible refine Kept.drew ?_ | with_reducible refine Kept.alloc ?_ _))⟩ (fun hH => ?_)
              clear hK K
              (try simp only [Act.put, List.setIfInBounds_toArray])
              refine wpT_takeC (i := 14) (v := ?_) rfl (by kernel_rfl) (by kernel_rfl) (by kernel_rfl) (by kernel_rfl) (by kernel_rfl) (fun _ _ _ h => h) (Or.inl ⟨by rfl, ?_⟩) (by assumption) ?_
              rotate_left 1
              · intro W hSw
                (try dsimp only at hSw)
                go_simp
                (try with_reducible rfl)
              (try simp only [Act.put])
              refine wpT_ready (rs := [13]) (by kernel_rfl) (by simp) ?_
              refine AllT.cons rfl (fun K hK => ?_) AllT.nil
              clear hH
              apply stepI
              (case hgd => rfl)
              (case ho => rfl)
              (case hR => (repeat (first | with_reducible exact hst | with_reducible apply Rg.drew | apply Rg.allocK | apply Rg.allocI)))
              (case hs => (rw [HVI.out]; rfl))
              (case hx => rfl)
              (case hb => simp)
              (case hl => rfl)
              (case h1 => simp [Value.oneCell'])
              (case hn => omega)
              all_goals skip
              intro g2 cap2 w9 hst
              obtain ⟨z5, z6, z7, z8⟩ := HZ.out _ hst.keep
              refine hK.out _ _ ⟨HS.out _ (HSM.out _ (by repeat (first | with_reducible exact hst.keep | with_reducible exact Kept.refl _ _ | with_reducible refine Kept.drew ?_ | with_reducible refine Kept.alloc ?_ _))), fun _ => HZ.out _ (by repeat (first | with_reducible exact hst.keep | with_reducible exact Kept.refl _ _ | with_reducible refine Kept.drew ?_ | with_reducible refine Kept.alloc ?_ _))⟩ (fun hH => ?_)
              clear hK K
              (try simp only [Act.put])
              refine wpT_ready (rs := [15]) (by kernel_rfl) (by simp) ?_
              refine AllT.cons rfl (fun K hK => ?_) AllT.nil
              clear hH
              go_simp
              refine hK.out _ _ ⟨HS.out _ (by repeat (first | with_reducible exact HSM.out _ hst.keep | with_reducible refine Kept.drew ?_ | with_reducible refine Kept.alloc ?_ _ | refine Kept.setCell ?_ (Or.inr (by simp)) _)), fun h => absurd h (by decide)⟩ (fun hH => ?_)
              clear hK K
              (try simp only [Act.put, List.setIfInBounds_toArray, List.set_cons_zero, List.set_cons_succ])
              refine wpT_takeC (i := 16) (v := ?_) rfl (by kernel_rfl) (by kernel_rfl) (by kernel_rfl) (by kernel_rfl) (by kernel_rfl) (fun _ _ _ h => h) (Or.inl ⟨by rfl, ?_⟩) (by assumption) ?_
              rotate_left 1
              · intro W hSw
                (try dsimp only at hSw)
                go_simp
                (try with_reducible rfl)
              (try simp only [Act.put, List.setIfInBounds_toArray])
              refine wpT_ready (rs := [17]) (by kernel_rfl) (by simp) ?_
              refine AllT.cons rfl (fun K hK => ?_) AllT.nil
              clear hH
              go_simp
              refine hK.out _ _ ⟨HS.out _ (by repeat (first | with_reducible exact HSM.out _ hst.keep | with_reducible refine Kept.drew ?_ | with_reducible refine Kept.alloc ?_ _ | refine Kept.setCell ?_ (Or.inr (by simp)) _)), fun h => absurd h (by decide)⟩ (fun hH => ?_)
              clear hK K
              (try simp only [Act.put, List.setIfInBounds_toArray, List.set_cons_zero, List.set_cons_succ])
              refine wpT_done (by kernel_rfl) ?_ _
              refine NoPanic.normal ?_
              have hput := put_round (y := (⟨k', i', g', r', s', keys', kids'⟩ : Nd)) hst rfl HB.out HOO.out.symm hNO hK HOW.out HFL.out (HND.out.kept hK (ltkB (Nat.le_trans hN hK0.size) (by simp))) hsz HSZ.out
              rw [← HPJ.out] at hput
              have HPU := Lib.hid hput; clear hput hst
              go_wp2_with fail
              exact ⟨⟨j + 1, S ++ [L[j]], _, _, _, by go_num, rfl, by omega, HPU.out.1, HPU.out.2.1, HPU.out.2.2, by rw [take_more hlt]; exact HQ.out⟩, by simp [intOf]; omega⟩
          · skip
            clear hH
            go_simp
            refine hK.out _ _ ⟨HS.out _ (HSM.out _ (by repeat (first | with_reducible exact hst.keep | with_reducible exact Kept.refl _ _ | with_reducible refine Kept.drew ?_ | with_reducible refine Kept.alloc ?_ _))), fun _ => HZ.out _ (by repeat (first | with_reducible exact hst.keep | with_reducible exact Kept.refl _ _ | with_reducible refine Kept.drew ?_ | with_reducible refine Kept.alloc ?_ _))⟩ (fun hH => ?_)
            clear hK K
            (try simp only [Act.put, List.setIfInBounds_toArray, List.set_cons_zero, List.set_cons_succ])
            refine wpT_ready (rs := [3]) (by kernel_rfl) (by simp) ?_
            refine AllT.cons rfl (fun K hK => ?_) AllT.nil
            clear hH
            go_simp
            refine hK.out _ _ ⟨HS.out _ (HSM.out _ (by repeat (first | with_reducible exact hst.keep | with_reducible exact Kept.refl _ _ | with_reducible refine Kept.drew ?_ | with_reducible refine Kept.alloc ?_ _))), fun _ => HZ.out _ (by repeat (first | with_reducible exact hst.keep | with_reducible exact Kept.refl _ _ | with_reducible refine Kept.drew ?_ | with_reducible refine Kept.alloc ?_ _))⟩ (fun hH => ?_)
            clear hK K
            (try simp only [Act.put, List.setIfInBounds_toArray, List.set_cons_zero, List.set_cons_succ])
            refine wpT_ready (rs := [4]) (by kernel_rfl) (by simp) ?_
            refine AllT.cons rfl (fun K hK => ?_) AllT.nil
            clear hH
            apply stepK
            (case hgd => rfl)
            (case ho => rfl)
            (case hR => (repeat (first | with_reducible exact hst | with_reducible apply Rg.drew | apply Rg.allocK | apply Rg.allocI)))
            (case hs => (rw [HVK.out]; rfl))
            (case hx => rfl)
            (case hb => simp)
            (case h1 => rfl)
            (case hn => omega)
            all_goals skip
            intro g1 cap1 w9 hst
            refine hK.out _ _ ⟨HS.out _ (HSM.out _ (by repeat (first | with_reducible exact hst.keep | with_reducible exact Kept.refl _ _ | with_reducible refine Kept.drew ?_ | with_reducible refine Kept.alloc ?_ _))), fun _ => HZ.out _ (by repeat (first | with_reducible exact hst.keep | with_reducible exact Kept.refl _ _ | with_reducible refine Kept.drew ?_ | with_reducible refine Kept.alloc ?_ _))⟩ (fun hH => ?_)
            clear hK K
            (try simp only [Act.put, List.setIfInBounds_toArray])
            refine wpT_takeC (i := 14) (v := ?_) rfl (by kernel_rfl) (by kernel_rfl) (by kernel_rfl) (by kernel_rfl) (by kernel_rfl) (fun _ _ _ h => h) (Or.inl ⟨by rfl, ?_⟩) (by assumption) ?_
            rotate_left 1
            · intro W hSw
              (try dsimp only at hSw)
              go_simp
              (try with_reducible rfl)
            (try simp only [Act.put])
            refine wpT_ready (rs := [13]) (by kernel_rfl) (by simp) ?_
            refine AllT.cons rfl (fun K hK => ?_) AllT.nil
            clear hH
            apply stepI
            (case hgd => rfl)
            (case ho => rfl)
            (case hR => (repeat (first | with_reducible exact hst | with_reducible apply Rg.drew | apply Rg.allocK | apply Rg.allocI)))
            (case hs => (rw [HVI.out]; rfl))
            (case hx => rfl)
            (case hb => simp)
            (case hl => rfl)
            (case h1 => simp [Value.oneCell'])
            (case hn => omega)
            all_goals skip
            intro g2 cap2 w9 hst
            obtain ⟨z5, z6, z7, z8⟩ := HZ.out _ hst.keep
            refine hK.out _ _ ⟨HS.out _ (HSM.out _ (by repeat (first | with_reducible exact hst.keep | with_reducible exact Kept.refl _ _ | with_reducible refine Kept.drew ?_ | with_reducible refine Kept.alloc ?_ _))), fun _ => HZ.out _ (by repeat (first | with_reducible exact hst.keep | with_reducible exact Kept.refl _ _ | with_reducible refine Kept.drew ?_ | with_reducible refine Kept.alloc ?_ _))⟩ (fun hH => ?_)
            clear hK K
            (try simp only [Act.put])
            refine wpT_ready (rs := [15]) (by kernel_rfl) (by simp) ?_
            refine AllT.cons rfl (fun K hK => ?_) AllT.nil
            clear hH
            go_simp
            refine hK.out _ _ ⟨HS.out _ (by repeat (first | with_reducible exact HSM.out _ hst.keep | with_reducible refine Kept.drew ?_ | with_reducible refine Kept.alloc ?_ _ | refine Kept.setCell ?_ (Or.inr (by simp)) _)), fun h => absurd h (by decide)⟩ (fun hH => ?_)
            clear hK K
            (try simp only [Act.put, List.setIfInBounds_toArray, List.set_cons_zero, List.set_cons_succ])
            refine wpT_takeC (i := 16) (v := ?_) rfl (by kernel_rfl) (by kernel_rfl) (by kernel_rfl) (by kernel_rfl) (by kernel_rfl) (fun _ _ _ h => h) (Or.inl ⟨by rfl, ?_⟩) (by assumption) ?_
            rotate_left 1
            · intro W hSw
              (try dsimp only at hSw)
              go_simp
              (try with_reducible rfl)
            (try simp only [Act.put, List.setIfInBounds_toArray])
            refine wpT_ready (rs := [17]) (by kernel_rfl) (by simp) ?_
            refine AllT.cons rfl (fun K hK => ?_) AllT.nil
            clear hH
            go_simp
            refine hK.out _ _ ⟨HS.out _ (by repeat (first | with_reducible exact HSM.out _ hst.keep | with_reducible refine Kept.drew ?_ | with_reducible refine Kept.alloc ?_ _ | refine Kept.setCell ?_ (Or.inr (by simp)) _)), fun h => absurd h (by decide)⟩ (fun hH => ?_)
            clear hK K
            (try simp only [Act.put, List.setIfInBounds_toArray, List.set_cons_zero, List.set_cons_succ])
            refine wpT_done (by kernel_rfl) ?_ _
            refine NoPanic.normal ?_
            have hput := put_round (y := (⟨k', i', g', r', s', keys', kids'⟩ : Nd)) hst rfl HB.out HOO.out.symm hNO hK HOW.out HFL.out (HND.out.kept hK (ltkB (Nat.le_trans hN hK0.size) (by simp))) hsz HSZ.out
            rw [← HPJ.out] at hput
            have HPU := Lib.hid hput; clear hput hst
            go_wp2_with fail
            exact ⟨⟨j + 1, S ++ [L[j]], _, _, _, by go_num, rfl, by omega, HPU.out.1, HPU.out.2.1, HPU.out.2.2, by rw [take_more hlt]; exact HQ.out⟩, by simp [intOf]; omega⟩
        · have hq := HPI.out.here hkey
          have zk := beq_of hkey.symm
          have zn := beq_of hkey
          have zl := less_not (a := key) (b := (L[j]).1) (fun h => by rw [hkey] at h; exact List.lt_irrefl _ h)
          have HQ := Lib.hid hq; clear hq hkey
          go_wp2_with fail
          have hOb := HOb.out; have hout := HOut.out
          obtain ⟨hkr, ⟨cs, hir, hfl⟩, hne, hszS⟩ := hout
          obtain ⟨ak, ck, hvk⟩ := own_form hkr
          obtain ⟨ai, ci, hvi⟩ := own_form hir
          have hown : ∀ b, vk.ownBlock = some b ∨ vi.ownBlock = some b → O + 1 ≤ b := fun b hb => by
            rcases hb with hb | hb
            · exact (ownsRow_lt hkr hb).2
            · exact (ownsRow_lt hir hb).2
          have hOl := lt_of_block hOb
          have hZ : ∀ W, Kept (vk.ownBlock.toList ++ vi.ownBlock.toList) wr W → W.cell? ⟨O, 5, none⟩ = some (.slice ak S.length ck) ∧ W.cell? ⟨O, 6, none⟩ = some (.slice ai S.length ci) ∧ W.frozen? ⟨O, 5, none⟩ = false ∧ W.frozen? ⟨O, 6, none⟩ = false := fun W hW => by
            have hb := hW.block O hOl (fun hm => by have := hown O (by simpa using hm); omega)
            obtain ⟨⟨_, _, _, _, _, y5, y6⟩, _, _, _, _, _, q5, q6⟩ := seven hOb
            rw [hvk] at y5
            rw [hvi] at y6
            exact ⟨(World.cell?_of_block hb).trans y5, (World.cell?_of_block hb).trans y6, (World.frozen?_of_block hb).trans q5, (World.frozen?_of_block hb).trans q6⟩
          have hSM : ∀ W, Kept (vk.ownBlock.toList ++ vi.ownBlock.toList) wr W → Kept (O :: (vk.ownBlock.toList ++ vi.ownBlock.toList)) wr W := fun W h => h.mono fun x hx _ => List.mem_cons_of_mem _ hx
          have hE : ∀ W, Kept (O :: (vk.ownBlock.toList ++ vi.ownBlock.toList)) wr W → ∀ b p, b < O → W.cell? ⟨b, p, none⟩ = w0.cell? ⟨b, p, none⟩ := fun W hW b p hb => by
            have hin : ∀ x ∈ O :: (vk.ownBlock.toList ++ vi.ownBlock.toList), O ≤ x := fun x hx => by
              rcases List.mem_cons.1 hx with h | h
              · omega
              · have := hown x (by simpa using h); omega
            exact (hW.cell (by omega) fun hm => by have := hin _ hm; omega).trans (hK.cell (by have := HOO.out; omega) (by simp))
          have HSM := Lib.hid hSM; have HZ := Lib.hid hZ; have HE := Lib.hid hE; have HOW := Lib.hid hown; have HSZ := Lib.hid hszS; have HFL := Lib.hid hfl; have HB := Lib.hid hOb
          have HVK := Lib.hid hvk; have HVI := Lib.hid hvi; clear hvk hvi hSM hZ hE hown hszS hfl
          have hst := Rg.start (.string key) [.int .i64 y.k, .int .i64 y.i, .int .i64 y.g, .float .f64 y.r, .string y.s, .slice kb y.keys.length kd, .slice ab y.kids.len capb] hkr hir hne (by omega : O + 1 ≤ wr.heap.size)
          have hS : ∀ W, Kept (O :: (vk.ownBlock.toList ++ vi.ownBlock.toList)) wr W → (W.cell? ⟨w.heap.size + 1, 0, none⟩ = some (.int .i64 y.k) ∧ W.cell? ⟨w.heap.size + 1, 1, none⟩ = some (.int .i64 y.i) ∧ W.cell? ⟨w.heap.size + 1, 2, none⟩ = some (.int .i64 y.g) ∧ W.cell? ⟨w.heap.size + 1, 3, none⟩ = some (.float .f64 y.r) ∧
              W.cell? ⟨w.heap.size + 1, 4, none⟩ = some (.string y.s) ∧ W.cell? ⟨w.heap.size + 1, 5, none⟩ = some (.slice kb y.keys.length kd) ∧ W.cell? ⟨w.heap.size + 1, 6, none⟩ = some (.slice ab y.kids.len capb)) := fun W hW => by
            have e := HE.out W hW
            obtain ⟨⟨d0, d1, d2, d3, d4, d5, d6⟩, _⟩ := seven HV.out
            exact ⟨(e _ _ (by omega)).trans d0, (e _ _ (by omega)).trans d1, (e _ _ (by omega)).trans d2, (e _ _ (by omega)).trans d3, (e _ _ (by omega)).trans d4, (e _ _ (by omega)).trans d5, (e _ _ (by omega)).trans d6⟩
          have HS := Lib.hid hS; clear hS hkr hir hne hOb
          refine wp_region_noPanic ?_
          refine wp_region_T (C := fun W => W.cell? ⟨w.heap.size + 1, 0, none⟩ = some (.int .i64 y.k) ∧ W.cell? ⟨w.heap.size + 1, 1, none⟩ = some (.int .i64 y.i) ∧ W.cell? ⟨w.heap.size + 1, 2, none⟩ = some (.int .i64 y.g) ∧ W.cell? ⟨w.heap.size + 1, 3, none⟩ = some (.float .f64 y.r) ∧
              W.cell? ⟨w.heap.size + 1, 4, none⟩ = some (.string y.s) ∧ W.cell? ⟨w.heap.size + 1, 5, none⟩ = some (.slice kb y.keys.length kd) ∧ W.cell? ⟨w.heap.size + 1, 6, none⟩ = some (.slice ab y.kids.len capb))
            (D := fun W => W.cell? ⟨O, 5, none⟩ = some (.slice ak S.length ck) ∧ W.cell? ⟨O, 6, none⟩ = some (.slice ai S.length ci) ∧ W.frozen? ⟨O, 5, none⟩ = false ∧ W.frozen? ⟨O, 6, none⟩ = false) (st := 11) (by kernel_rfl)
            ⟨HS.out _ (Kept.refl _ _).drew, fun _ => HZ.out _ (Kept.refl _ _).drew⟩ (fun hH => ?_)
          refine wpT_takeC (i := 0) (v := ?_) rfl (by kernel_rfl) (by kernel_rfl) (by kernel_rfl) (by kernel_rfl) (by kernel_rfl) (fun _ _ _ h => h) (Or.inl ⟨by rfl, ?_⟩) (by assumption) ?_
          rotate_left 1
          · intro W hSw
            (try dsimp only at hSw)
            go_simp
            (try with_reducible rfl)
          (try simp only [Act.put, List.setIfInBounds_toArray])
          refine wpT_takeD (i := 1) (v := ?_) rfl (by kernel_rfl) (by kernel_rfl) (by kernel_rfl) (by kernel_rfl) (by kernel_rfl) (fun _ _ _ h => h) (Or.inl ⟨by rfl, ?_⟩) (by assumption) ?_
          rotate_left 1
          · intro W hSw
            (try dsimp only at hSw)
            go_simp
            (try with_reducible rfl)
          (try simp only [Act.put])
          refine wpT_takeC (i := 2) (v := ?_) rfl (by kernel_rfl) (by kernel_rfl) (by kernel_rfl) (by kernel_rfl) (by kernel_rfl) (fun _ _ _ h => h) (Or.inl ⟨by rfl, ?_⟩) (by assumption) ?_
          rotate_left 1
          · intro W hSw
            (try dsimp only at hSw)
            go_simp
            (try with_reducible rfl)
          (try simp only [Act.put])
          refine wpT_takeC (i := 5) (v := ?_) rfl (by kernel_rfl) (by kernel_rfl) (by kernel_rfl) (by kernel_rfl) (by kernel_rfl) (fun _ _ _ h => h) (Or.inl ⟨by rfl, ?_⟩) (by assumption) ?_
          rotate_left 1
          · intro W hSw
            (try dsimp only at hSw)
            go_simp
            (try with_reducible rfl)
          (try simp only [Act.put])
          refine wpT_takeD (i := 6) (v := ?_) rfl (by kernel_rfl) (by kernel_rfl) (by kernel_rfl) (by kernel_rfl) (by kernel_rfl) (fun _ _ _ h => h) (Or.inl ⟨by rfl, ?_⟩) (by assumption) ?_
          rotate_left 1
          · intro W hSw
            (try dsimp only at hSw)
            go_simp
            (try with_reducible rfl)
          (try simp only [Act.put])
          refine wpT_takeC (i := 7) (v := ?_) rfl (by kernel_rfl) (by kernel_rfl) (by kernel_rfl) (by kernel_rfl) (by kernel_rfl) (fun _ _ _ h => h) (Or.inl ⟨by rfl, ?_⟩) (by assumption) ?_
          rotate_left 1
          · intro W hSw
            (try dsimp only at hSw)
            go_simp
            (try with_reducible rfl)
          (try simp only [Act.put])
          refine wpT_ready (rs := [3, 8]) (by kernel_rfl) (by simp) ?_
          refine AllT.cons rfl (fun K hK => ?_) (AllT.cons rfl (fun K hK => ?_) AllT.nil)
          · skip
            clear hH
            go_simp
            refine hK.out _ _ ⟨HS.out _ (HSM.out _ (by repeat (first | with_reducible exact hst.keep | with_reducible exact Kept.refl _ _ | with_reducible refine Kept.drew ?_ | with_reducible refine Kept.alloc ?_ _))), fun _ => HZ.out _ (by repeat (first | with_reducible exact hst.keep | with_reducible exact Kept.refl _ _ | with_reducible refine Kept.drew ?_ | with_reducible refine Kept.alloc ?_ _))⟩ (fun hH => ?_)
            clear hK K
            (try simp only [Act.put, List.setIfInBounds_toArray, List.set_cons_zero, List.set_cons_succ])
            refine wpT_ready (rs := [4, 8]) (by kernel_rfl) (by simp) ?_
            refine AllT.cons rfl (fun K hK => ?_) (AllT.cons rfl (fun K hK => ?_) AllT.nil)
            · skip
              clear hH
              apply stepK
              (case hgd => rfl)
              (case ho => rfl)
              (case hR => (repeat (first | with_reducible exact hst | with_reducible apply Rg.drew | apply Rg.allocK | apply Rg.allocI)))
              (case hs => (rw [HVK.out]; rfl))
              (case hx => rfl)
              (case hb => simp)
              (case h1 => rfl)
              (case hn => omega)
              all_goals skip
              intro g1 cap1 w9 hst
              refine hK.out _ _ ⟨HS.out _ (HSM.out _ (by repeat (first | with_reducible exact hst.keep | with_reducible exact Kept.refl _ _ | with_reducible refine Kept.drew ?_ | with_reducible refine Kept.alloc ?_ _))), fun _ => HZ.out _ (by repeat (first | with_reducible exact hst.keep | with_reducible exact Kept.refl _ _ | with_reducible refine Kept.drew ?_ | with_reducible refine Kept.alloc ?_ _))⟩ (fun hH => ?_)
              clear hK K
              (try simp only [Act.put, List.setIfInBounds_toArray])
              refine wpT_takeC (i := 10) (v := ?_) rfl (by kernel_rfl) (by kernel_rfl) (by kernel_rfl) (by kernel_rfl) (by kernel_rfl) (fun _ _ _ h => h) (Or.inl ⟨by rfl, ?_⟩) (by assumption) ?_
              rotate_left 1
              · intro W hSw
                (try dsimp only at hSw)
                go_simp
                (try with_reducible rfl)
              (try simp only [Act.put])
              refine wpT_ready (rs := [8]) (by kernel_rfl) (by simp) ?_
              refine AllT.cons rfl (fun K hK => ?_) AllT.nil
              clear hH
              go_simp
              refine hK.out _ _ ⟨HS.out _ (HSM.out _ (by repeat (first | with_reducible exact hst.keep | with_reducible exact Kept.refl _ _ | with_reducible refine Kept.drew ?_ | with_reducible refine Kept.alloc ?_ _))), fun _ => HZ.out _ (by repeat (first | with_reducible exact hst.keep | with_reducible exact Kept.refl _ _ | with_reducible refine Kept.drew ?_ | with_reducible refine Kept.alloc ?_ _))⟩ (fun hH => ?_)
              clear hK K
              (try simp only [Act.put, List.setIfInBounds_toArray, List.set_cons_zero, List.set_cons_succ])
              refine wpT_ready (rs := [9]) (by kernel_rfl) (by simp) ?_
              refine AllT.cons rfl (fun K hK => ?_) AllT.nil
              clear hH
              apply stepI
              (case hgd => rfl)
              (case ho => rfl)
              (case hR => (repeat (first | with_reducible exact hst | with_reducible apply Rg.drew | apply Rg.allocK | apply Rg.allocI)))
              (case hs => (rw [HVI.out]; rfl))
              (case hx => rfl)
              (case hb => simp)
              (case hl => rfl)
              (case h1 => simp [Value.oneCell'])
              (case hn => omega)
              all_goals skip
              intro g2 cap2 w9 hst
              obtain ⟨z5, z6, z7, z8⟩ := HZ.out _ hst.keep
              refine hK.out _ _ ⟨HS.out _ (HSM.out _ (by repeat (first | with_reducible exact hst.keep | with_reducible exact Kept.refl _ _ | with_reducible refine Kept.drew ?_ | with_reducible refine Kept.alloc ?_ _))), fun _ => HZ.out _ (by repeat (first | with_reducible exact hst.keep | with_reducible exact Kept.refl _ _ | with_reducible refine Kept.drew ?_ | with_reducible refine Kept.alloc ?_ _))⟩ (fun hH => ?_)
              clear hK K
              (try simp only [Act.put, List.setIfInBounds_toArray])
              refine wpT_ready (rs := [11]) (by kernel_rfl) (by simp) ?_
              refine AllT.cons rfl (fun K hK => ?_) AllT.nil
              clear hH
              go_simp
              refine hK.out _ _ ⟨HS.out _ (by repeat (first | with_reducible exact HSM.out _ hst.keep | with_reducible refine Kept.drew ?_ | with_reducible refine Kept.alloc ?_ _ | refine Kept.setCell ?_ (Or.inr (by simp)) _)), fun h => absurd h (by decide)⟩ (fun hH => ?_)
              clear hK K
              (try simp only [Act.put, List.setIfInBounds_toArray, List.set_cons_zero, List.set_cons_succ])
              refine wpT_takeC (i := 12) (v := ?_) rfl (by kernel_rfl) (by kernel_rfl) (by kernel_rfl) (by kernel_rfl) (by kernel_rfl) (fun _ _ _ h => h) (Or.inl ⟨by rfl, ?_⟩) (by assumption) ?_
              rotate_left 1
              · intro W hSw
                (try dsimp only at hSw)
                go_simp
                (try with_reducible rfl)
              (try simp only [Act.put, List.setIfInBounds_toArray])
              refine wpT_ready (rs := [13]) (by kernel_rfl) (by simp) ?_
              refine AllT.cons rfl (fun K hK => ?_) AllT.nil
              clear hH
              go_simp
              refine hK.out _ _ ⟨HS.out _ (by repeat (first | with_reducible exact HSM.out _ hst.keep | with_reducible refine Kept.drew ?_ | with_reducible refine Kept.alloc ?_ _ | refine Kept.setCell ?_ (Or.inr (by simp)) _)), fun h => absurd h (by decide)⟩ (fun hH => ?_)
              clear hK K
              (try simp only [Act.put, List.setIfInBounds_toArray, List.set_cons_zero, List.set_cons_succ])
              refine wpT_done (by kernel_rfl) ?_ _
              refine NoPanic.normal ?_
              have hput := put_round (y := y) hst rfl HB.out HOO.out.symm hNO hK HOW.out HFL.out (HY.out.kept hK (ltkB (Nat.le_trans hN hK0.size) (by simp))) HKZ.out HSZ.out
              have HPU := Lib.hid hput; clear hput hst
              go_wp2_with fail
              exact ⟨⟨j + 1, S ++ [(key, y)], _, _, _, by go_num, rfl, by omega, HPU.out.1, HPU.out.2.1, HPU.out.2.2, by rw [take_more hlt]; exact HQ.out⟩, by simp [intOf]; omega⟩
            · skip
              clear hH
              go_simp
              refine hK.out _ _ ⟨HS.out _ (HSM.out _ (by repeat (first | with_reducible exact hst.keep | with_reducible exact Kept.refl _ _ | with_reducible refine Kept.drew ?_ | with_reducible refine Kept.alloc ?_ _))), fun _ => HZ.out _ (by repeat (first | with_reducible exact hst.keep | with_reducible exact Kept.refl _ _ | with_reducible refine Kept.drew ?_ | with_reducible refine Kept.alloc ?_ _))⟩ (fun hH => ?_)
              clear hK K
              (try simp only [Act.put, List.setIfInBounds_toArray, List.set_cons_zero, List.set_cons_succ])
              refine wpT_ready (rs := [4]) (by kernel_rfl) (by simp) ?_
              refine AllT.cons rfl (fun K hK => ?_) AllT.nil
              clear hH
              apply stepK
              (case hgd => rfl)
              (case ho => rfl)
              (case hR => (repeat (first | with_reducible exact hst | with_reducible apply Rg.drew | apply Rg.allocK | apply Rg.allocI)))
              (case hs => (rw [HVK.out]; rfl))
              (case hx => rfl)
              (case hb => simp)
              (case h1 => rfl)
              (case hn => omega)
              all_goals skip
              intro g1 cap1 w9 hst
              refine hK.out _ _ ⟨HS.out _ (HSM.out _ (by repeat (first | with_reducible exact hst.keep | with_reducible exact Kept.refl _ _ | with_reducible refine Kept.drew ?_ | with_reducible refine Kept.alloc ?_ _))), fun _ => HZ.out _ (by repeat (first | with_reducible exact hst.keep | with_reducible exact Kept.refl _ _ | with_reducible refine Kept.drew ?_ | with_reducible refine Kept.alloc ?_ _))⟩ (fun hH => ?_)
              clear hK K
              (try simp only [Act.put, List.setIfInBounds_toArray])
              refine wpT_takeC (i := 10) (v := ?_) rfl (by kernel_rfl) (by kernel_rfl) (by kernel_rfl) (by kernel_rfl) (by kernel_rfl) (fun _ _ _ h => h) (Or.inl ⟨by rfl, ?_⟩) (by assumption) ?_
              rotate_left 1
              · intro W hSw
                (try dsimp only at hSw)
                go_simp
                (try with_reducible rfl)
              (try simp only [Act.put])
              refine wpT_ready (rs := [9]) (by kernel_rfl) (by simp) ?_
              refine AllT.cons rfl (fun K hK => ?_) AllT.nil
              clear hH
              apply stepI
              (case hgd => rfl)
              (case ho => rfl)
              (case hR => (repeat (first | with_reducible exact hst | with_reducible apply Rg.drew | apply Rg.allocK | apply Rg.allocI)))
              (case hs => (rw [HVI.out]; rfl))
              (case hx => rfl)
              (case hb => simp)
              (case hl => rfl)
              (case h1 => simp [Value.oneCell'])
              (case hn => omega)
              all_goals skip
              intro g2 cap2 w9 hst
              obtain ⟨z5, z6, z7, z8⟩ := HZ.out _ hst.keep
              refine hK.out _ _ ⟨HS.out _ (HSM.out _ (by repeat (first | with_reducible exact hst.keep | with_reducible exact Kept.refl _ _ | with_reducible refine Kept.drew ?_ | with_reducible refine Kept.alloc ?_ _))), fun _ => HZ.out _ (by repeat (first | with_reducible exact hst.keep | with_reducible exact Kept.refl _ _ | with_reducible refine Kept.drew ?_ | with_reducible refine Kept.alloc ?_ _))⟩ (fun hH => ?_)
              clear hK K
              (try simp only [Act.put])
              refine wpT_ready (rs := [11]) (by kernel_rfl) (by simp) ?_
              refine AllT.cons rfl (fun K hK => ?_) AllT.nil
              clear hH
              go_simp
              refine hK.out _ _ ⟨HS.out _ (by repeat (first | with_reducible exact HSM.out _ hst.keep | with_reducible refine Kept.drew ?_ | with_reducible refine Kept.alloc ?_ _ | refine Kept.setCell ?_ (Or.inr (by simp)) _)), fun h => absurd h (by decide)⟩ (fun hH => ?_)
              clear hK K
              (try simp only [Act.put, List.setIfInBounds_toArray, List.set_cons_zero, List.set_cons_succ])
              refine wpT_takeC (i := 12) (v := ?_) rfl (by kernel_rfl) (by kernel_rfl) (by kernel_rfl) (by kernel_rfl) (by kernel_rfl) (fun _ _ _ h => h) (Or.inl ⟨by rfl, ?_⟩) (by assumption) ?_
              rotate_left 1
              · intro W hSw
                (try dsimp only at hSw)
                go_simp
                (try with_reducible rfl)
              (try simp only [Act.put, List.setIfInBounds_toArray])
              refine wpT_ready (rs := [13]) (by kernel_rfl) (by simp) ?_
              refine AllT.cons rfl (fun K hK => ?_) AllT.nil
              clear hH
              go_simp
              refine hK.out _ _ ⟨HS.out _ (by repeat (first | with_reducible exact HSM.out _ hst.keep | with_reducible refine Kept.drew ?_ | with_reducible refine Kept.alloc ?_ _ | refine Kept.setCell ?_ (Or.inr (by simp)) _)), fun h => absurd h (by decide)⟩ (fun hH => ?_)
              clear hK K
              (try simp only [Act.put, List.setIfInBounds_toArray, List.set_cons_zero, List.set_cons_succ])
              refine wpT_done (by kernel_rfl) ?_ _
              refine NoPanic.normal ?_
              have hput := put_round (y := y) hst rfl HB.out HOO.out.symm hNO hK HOW.out HFL.out (HY.out.kept hK (ltkB (Nat.le_trans hN hK0.size) (by simp))) HKZ.out HSZ.out
              have HPU := Lib.hid hput; clear hput hst
              go_wp2_with fail
              exact ⟨⟨j + 1, S ++ [(key, y)], _, _, _, by go_num, rfl, by omega, HPU.out.1, HPU.out.2.1, HPU.out.2.2, by rw [take_more hlt]; exact HQ.out⟩, by simp [intOf]; omega⟩
          · skip
            clear hH
            go_simp
            refine hK.out _ _ ⟨HS.out _ (HSM.out _ (by repeat (first | with_reducible exact hst.keep | with_reducible exact Kept.refl _ _ | with_reducible refine Kept.drew ?_ | with_reducible refine Kept.alloc ?_ _))), fun _ => HZ.out _ (by repeat (first | with_reducible exact hst.keep | with_reducible exact Kept.refl _ _ | with_reducible refine Kept.drew ?_ | with_reducible refine Kept.alloc ?_ _))⟩ (fun hH => ?_)
            clear hK K
            (try simp only [Act.put, List.setIfInBounds_toArray, List.set_cons_zero, List.set_cons_succ])
            refine wpT_ready (rs := [3]) (by kernel_rfl) (by simp) ?_
            refine AllT.cons rfl (fun K hK => ?_) AllT.nil
            clear hH
            go_simp
            refine hK.out _ _ ⟨HS.out _ (HSM.out _ (by repeat (first | with_reducible exact hst.keep | with_reducible exact Kept.refl _ _ | with_reducible refine Kept.drew ?_ | with_reducible refine Kept.alloc ?_ _))), fun _ => HZ.out _ (by repeat (first | with_reducible exact hst.keep | with_reducible exact Kept.refl _ _ | with_reducible refine Kept.drew ?_ | with_reducible refine Kept.alloc ?_ _))⟩ (fun hH => ?_)
            clear hK K
            (try simp only [Act.put, List.setIfInBounds_toArray, List.set_cons_zero, List.set_cons_succ])
            refine wpT_ready (rs := [4]) (by kernel_rfl) (by simp) ?_
            refine AllT.cons rfl (fun K hK => ?_) AllT.nil
            clear hH
            apply stepK
            (case hgd => rfl)
            (case ho => rfl)
            (case hR => (repeat (first | with_reducible exact hst | with_reducible apply Rg.drew | apply Rg.allocK | apply Rg.allocI)))
            (case hs => (rw [HVK.out]; rfl))
            (case hx => rfl)
            (case hb => simp)
            (case h1 => rfl)
            (case hn => omega)
            all_goals skip
            intro g1 cap1 w9 hst
            refine hK.out _ _ ⟨HS.out _ (HSM.out _ (by repeat (first | with_reducible exact hst.keep | with_reducible exact Kept.refl _ _ | with_reducible refine Kept.drew ?_ | with_reducible refine Kept.alloc ?_ _))), fun _ => HZ.out _ (by repeat (first | with_reducible exact hst.keep | with_reducible exact Kept.refl _ _ | with_reducible refine Kept.drew ?_ | with_reducible refine Kept.alloc ?_ _))⟩ (fun hH => ?_)
            clear hK K
            (try simp only [Act.put, List.setIfInBounds_toArray])
            refine wpT_takeC (i := 10) (v := ?_) rfl (by kernel_rfl) (by kernel_rfl) (by kernel_rfl) (by kernel_rfl) (by kernel_rfl) (fun _ _ _ h => h) (Or.inl ⟨by rfl, ?_⟩) (by assumption) ?_
            rotate_left 1
            · intro W hSw
              (try dsimp only at hSw)
              go_simp
              (try with_reducible rfl)
            (try simp only [Act.put])
            refine wpT_ready (rs := [9]) (by kernel_rfl) (by simp) ?_
            refine AllT.cons rfl (fun K hK => ?_) AllT.nil
            clear hH
            apply stepI
            (case hgd => rfl)
            (case ho => rfl)
            (case hR => (repeat (first | with_reducible exact hst | with_reducible apply Rg.drew | apply Rg.allocK | apply Rg.allocI)))
            (case hs => (rw [HVI.out]; rfl))
            (case hx => rfl)
            (case hb => simp)
            (case hl => rfl)
            (case h1 => simp [Value.oneCell'])
            (case hn => omega)
            all_goals skip
            intro g2 cap2 w9 hst
            obtain ⟨z5, z6, z7, z8⟩ := HZ.out _ hst.keep
            refine hK.out _ _ ⟨HS.out _ (HSM.out _ (by repeat (first | with_reducible exact hst.keep | with_reducible exact Kept.refl _ _ | with_reducible refine Kept.drew ?_ | with_reducible refine Kept.alloc ?_ _))), fun _ => HZ.out _ (by repeat (first | with_reducible exact hst.keep | with_reducible exact Kept.refl _ _ | with_reducible refine Kept.drew ?_ | with_reducible refine Kept.alloc ?_ _))⟩ (fun hH => ?_)
            clear hK K
            (try simp only [Act.put])
            refine wpT_ready (rs := [11]) (by kernel_rfl) (by simp) ?_
            refine AllT.cons rfl (fun K hK => ?_) AllT.nil
            clear hH
            go_simp
            refine hK.out _ _ ⟨HS.out _ (by repeat (first | with_reducible exact HSM.out _ hst.keep | with_reducible refine Kept.drew ?_ | with_reducible refine Kept.alloc ?_ _ | refine Kept.setCell ?_ (Or.inr (by simp)) _)), fun h => absurd h (by decide)⟩ (fun hH => ?_)
            clear hK K
            (try simp only [Act.put, List.setIfInBounds_toArray, List.set_cons_zero, List.set_cons_succ])
            refine wpT_takeC (i := 12) (v := ?_) rfl (by kernel_rfl) (by kernel_rfl) (by kernel_rfl) (by kernel_rfl) (by kernel_rfl) (fun _ _ _ h => h) (Or.inl ⟨by rfl, ?_⟩) (by assumption) ?_
            rotate_left 1
            · intro W hSw
              (try dsimp only at hSw)
              go_simp
              (try with_reducible rfl)
            (try simp only [Act.put, List.setIfInBounds_toArray])
            refine wpT_ready (rs := [13]) (by kernel_rfl) (by simp) ?_
            refine AllT.cons rfl (fun K hK => ?_) AllT.nil
            clear hH
            go_simp
            refine hK.out _ _ ⟨HS.out _ (by repeat (first | with_reducible exact HSM.out _ hst.keep | with_reducible refine Kept.drew ?_ | with_reducible refine Kept.alloc ?_ _ | refine Kept.setCell ?_ (Or.inr (by simp)) _)), fun h => absurd h (by decide)⟩ (fun hH => ?_)
            clear hK K
            (try simp only [Act.put, List.setIfInBounds_toArray, List.set_cons_zero, List.set_cons_succ])
            refine wpT_done (by kernel_rfl) ?_ _
            refine NoPanic.normal ?_
            have hput := put_round (y := y) hst rfl HB.out HOO.out.symm hNO hK HOW.out HFL.out (HY.out.kept hK (ltkB (Nat.le_trans hN hK0.size) (by simp))) HKZ.out HSZ.out
            have HPU := Lib.hid hput; clear hput hst
            go_wp2_with fail
            exact ⟨⟨j + 1, S ++ [(key, y)], _, _, _, by go_num, rfl, by omega, HPU.out.1, HPU.out.2.1, HPU.out.2.2, by rw [take_more hlt]; exact HQ.out⟩, by simp [intOf]; omega⟩
        · have hq := HPI.out.put hkey
          have zl := less_of hkey
          have zn := beq_not (lt_ne hkey).symm
          have HQ := Lib.hid hq; clear hq hkey
          go_wp2_with fail
          have hOb := HOb.out; have hout := HOut.out
          obtain ⟨hkr, ⟨cs, hir, hfl⟩, hne, hszS⟩ := hout
          obtain ⟨ak, ck, hvk⟩ := own_form hkr
          obtain ⟨ai, ci, hvi⟩ := own_form hir
          have hown : ∀ b, vk.ownBlock = some b ∨ vi.ownBlock = some b → O + 1 ≤ b := fun b hb => by
            rcases hb with hb | hb
            · exact (ownsRow_lt hkr hb).2
            · exact (ownsRow_lt hir hb).2
          have hOl := lt_of_block hOb
          have hZ : ∀ W, Kept (vk.ownBlock.toList ++ vi.ownBlock.toList) wr W → W.cell? ⟨O, 5, none⟩ = some (.slice ak S.length ck) ∧ W.cell? ⟨O, 6, none⟩ = some (.slice ai S.length ci) ∧ W.frozen? ⟨O, 5, none⟩ = false ∧ W.frozen? ⟨O, 6, none⟩ = false := fun W hW => by
            have hb := hW.block O hOl (fun hm => by have := hown O (by simpa using hm); omega)
            obtain ⟨⟨_, _, _, _, _, y5, y6⟩, _, _, _, _, _, q5, q6⟩ := seven hOb
            rw [hvk] at y5
            rw [hvi] at y6
            exact ⟨(World.cell?_of_block hb).trans y5, (World.cell?_of_block hb).trans y6, (World.frozen?_of_block hb).trans q5, (World.frozen?_of_block hb).trans q6⟩
          have hSM : ∀ W, Kept (vk.ownBlock.toList ++ vi.ownBlock.toList) wr W → Kept (O :: (vk.ownBlock.toList ++ vi.ownBlock.toList)) wr W := fun W h => h.mono fun x hx _ => List.mem_cons_of_mem _ hx
          have hE : ∀ W, Kept (O :: (vk.ownBlock.toList ++ vi.ownBlock.toList)) wr W → ∀ b p, b < O → W.cell? ⟨b, p, none⟩ = w0.cell? ⟨b, p, none⟩ := fun W hW b p hb => by
            have hin : ∀ x ∈ O :: (vk.ownBlock.toList ++ vi.ownBlock.toList), O ≤ x := fun x hx => by
              rcases List.mem_cons.1 hx with h | h
              · omega
              · have := hown x (by simpa using h); omega
            exact (hW.cell (by omega) fun hm => by have := hin _ hm; omega).trans (hK.cell (by have := HOO.out; omega) (by simp))
          have HSM := Lib.hid hSM; have HZ := Lib.hid hZ; have HE := Lib.hid hE; have HOW := Lib.hid hown; have HSZ := Lib.hid hszS; have HFL := Lib.hid hfl; have HB := Lib.hid hOb
          have HVK := Lib.hid hvk; have HVI := Lib.hid hvi; clear hvk hvi hSM hZ hE hown hszS hfl
          have hst := Rg.start (.string key) [.int .i64 y.k, .int .i64 y.i, .int .i64 y.g, .float .f64 y.r, .string y.s, .slice kb y.keys.length kd, .slice ab y.kids.len capb] hkr hir hne (by omega : O + 1 ≤ wr.heap.size)
          have hS : ∀ W, Kept (O :: (vk.ownBlock.toList ++ vi.ownBlock.toList)) wr W → (W.cell? ⟨w.heap.size + 1, 0, none⟩ = some (.int .i64 y.k) ∧ W.cell? ⟨w.heap.size + 1, 1, none⟩ = some (.int .i64 y.i) ∧ W.cell? ⟨w.heap.size + 1, 2, none⟩ = some (.int .i64 y.g) ∧ W.cell? ⟨w.heap.size + 1, 3, none⟩ = some (.float .f64 y.r) ∧
              W.cell? ⟨w.heap.size + 1, 4, none⟩ = some (.string y.s) ∧ W.cell? ⟨w.heap.size + 1, 5, none⟩ = some (.slice kb y.keys.length kd) ∧ W.cell? ⟨w.heap.size + 1, 6, none⟩ = some (.slice ab y.kids.len capb)) := fun W hW => by
            have e := HE.out W hW
            obtain ⟨⟨d0, d1, d2, d3, d4, d5, d6⟩, _⟩ := seven HV.out
            exact ⟨(e _ _ (by omega)).trans d0, (e _ _ (by omega)).trans d1, (e _ _ (by omega)).trans d2, (e _ _ (by omega)).trans d3, (e _ _ (by omega)).trans d4, (e _ _ (by omega)).trans d5, (e _ _ (by omega)).trans d6⟩
          have HS := Lib.hid hS; clear hS hkr hir hne hOb
          refine wp_region_noPanic ?_
          refine wp_region_T (C := fun W => W.cell? ⟨w.heap.size + 1, 0, none⟩ = some (.int .i64 y.k) ∧ W.cell? ⟨w.heap.size + 1, 1, none⟩ = some (.int .i64 y.i) ∧ W.cell? ⟨w.heap.size + 1, 2, none⟩ = some (.int .i64 y.g) ∧ W.cell? ⟨w.heap.size + 1, 3, none⟩ = some (.float .f64 y.r) ∧
              W.cell? ⟨w.heap.size + 1, 4, none⟩ = some (.string y.s) ∧ W.cell? ⟨w.heap.size + 1, 5, none⟩ = some (.slice kb y.keys.length kd) ∧ W.cell? ⟨w.heap.size + 1, 6, none⟩ = some (.slice ab y.kids.len capb))
            (D := fun W => W.cell? ⟨O, 5, none⟩ = some (.slice ak S.length ck) ∧ W.cell? ⟨O, 6, none⟩ = some (.slice ai S.length ci) ∧ W.frozen? ⟨O, 5, none⟩ = false ∧ W.frozen? ⟨O, 6, none⟩ = false) (st := 11) (by kernel_rfl)
            ⟨HS.out _ (Kept.refl _ _).drew, fun _ => HZ.out _ (Kept.refl _ _).drew⟩ (fun hH => ?_)
          refine wpT_takeC (i := 0) (v := ?_) rfl (by kernel_rfl) (by kernel_rfl) (by kernel_rfl) (by kernel_rfl) (by kernel_rfl) (fun _ _ _ h => h) (Or.inl ⟨by rfl, ?_⟩) (by assumption) ?_
          rotate_left 1
          · intro W hSw
            (try dsimp only at hSw)
            go_simp
            (try with_reducible rfl)
          (try simp only [Act.put, List.setIfInBounds_toArray])
          refine wpT_takeD (i := 1) (v := ?_) rfl (by kernel_rfl) (by kernel_rfl) (by kernel_rfl) (by kernel_rfl) (by kernel_rfl) (fun _ _ _ h => h) (Or.inl ⟨by rfl, ?_⟩) (by assumption) ?_
          rotate_left 1
          · intro W hSw
            (try dsimp only at hSw)
            go_simp
            (try with_reducible rfl)
          (try simp only [Act.put])
          refine wpT_takeC (i := 2) (v := ?_) rfl (by kernel_rfl) (by kernel_rfl) (by kernel_rfl) (by kernel_rfl) (by kernel_rfl) (fun _ _ _ h => h) (Or.inl ⟨by rfl, ?_⟩) (by assumption) ?_
          rotate_left 1
          · intro W hSw
            (try dsimp only at hSw)
            go_simp
            (try with_reducible rfl)
          (try simp only [Act.put])
          refine wpT_takeC (i := 5) (v := ?_) rfl (by kernel_rfl) (by kernel_rfl) (by kernel_rfl) (by kernel_rfl) (by kernel_rfl) (fun _ _ _ h => h) (Or.inl ⟨by rfl, ?_⟩) (by assumption) ?_
          rotate_left 1
          · intro W hSw
            (try dsimp only at hSw)
            go_simp
            (try with_reducible rfl)
          (try simp only [Act.put])
          refine wpT_takeD (i := 6) (v := ?_) rfl (by kernel_rfl) (by kernel_rfl) (by kernel_rfl) (by kernel_rfl) (by kernel_rfl) (fun _ _ _ h => h) (Or.inl ⟨by rfl, ?_⟩) (by assumption) ?_
          rotate_left 1
          · intro W hSw
            (try dsimp only at hSw)
            go_simp
            (try with_reducible rfl)
          (try simp only [Act.put])
          refine wpT_takeC (i := 7) (v := ?_) rfl (by kernel_rfl) (by kernel_rfl) (by kernel_rfl) (by kernel_rfl) (by kernel_rfl) (fun _ _ _ h => h) (Or.inl ⟨by rfl, ?_⟩) (by assumption) ?_
          rotate_left 1
          · intro W hSw
            (try dsimp only at hSw)
            go_simp
            (try with_reducible rfl)
          (try simp only [Act.put])
          refine wpT_ready (rs := [3, 8]) (by kernel_rfl) (by simp) ?_
          refine AllT.cons rfl (fun K hK => ?_) (AllT.cons rfl (fun K hK => ?_) AllT.nil)
          · skip
            clear hH
            go_simp
            refine hK.out _ _ ⟨HS.out _ (HSM.out _ (by repeat (first | with_reducible exact hst.keep | with_reducible exact Kept.refl _ _ | with_reducible refine Kept.drew ?_ | with_reducible refine Kept.alloc ?_ _))), fun _ => HZ.out _ (by repeat (first | with_reducible exact hst.keep | with_reducible exact Kept.refl _ _ | with_reducible refine Kept.drew ?_ | with_reducible refine Kept.alloc ?_ _))⟩ (fun hH => ?_)
            clear hK K
            (try simp only [Act.put, List.setIfInBounds_toArray, List.set_cons_zero, List.set_cons_succ])
            refine wpT_ready (rs := [4, 8]) (by kernel_rfl) (by simp) ?_
            refine AllT.cons rfl (fun K hK => ?_) (AllT.cons rfl (fun K hK => ?_) AllT.nil)
            · skip
              clear hH
              apply stepK
              (case hgd => rfl)
              (case ho => rfl)
              (case hR => (repeat (first | with_reducible exact hst | with_reducible apply Rg.drew | apply Rg.allocK | apply Rg.allocI)))
              (case hs => (rw [HVK.out]; rfl))
              (case hx => rfl)
              (case hb => simp)
              (case h1 => rfl)
              (case hn => omega)
              all_goals skip
              intro g1 cap1 w9 hst
              refine hK.out _ _ ⟨HS.out _ (HSM.out _ (by repeat (first | with_reducible exact hst.keep | with_reducible exact Kept.refl _ _ | with_reducible refine Kept.drew ?_ | with_reducible refine Kept.alloc ?_ _))), fun _ => HZ.out _ (by repeat (first | with_reducible exact hst.keep | with_reducible exact Kept.refl _ _ | with_reducible refine Kept.drew ?_ | with_reducible refine Kept.alloc ?_ _))⟩ (fun hH => ?_)
              clear hK K
              (try simp only [Act.put, List.setIfInBounds_toArray])
              refine wpT_takeC (i := 10) (v := ?_) rfl (by kernel_rfl) (by kernel_rfl) (by kernel_rfl) (by kernel_rfl) (by kernel_rfl) (fun _ _ _ h => h) (Or.inl ⟨by rfl, ?_⟩) (by assumption) ?_
              rotate_left 1
              · intro W hSw
                (try dsimp only at hSw)
                go_simp
                (try with_reducible rfl)
              (try simp only [Act.put])
              refine wpT_ready (rs := [8]) (by kernel_rfl) (by simp) ?_
              refine AllT.cons rfl (fun K hK => ?_) AllT.nil
              clear hH
              go_simp
              refine hK.out _ _ ⟨HS.out _ (HSM.out _ (by repeat (first | with_reducible exact hst.keep | with_reducible exact Kept.refl _ _ | with_reducible refine Kept.drew ?_ | with_reducible refine Kept.alloc ?_ _))), fun _ => HZ.out _ (by repeat (first | with_reducible exact hst.keep | with_reducible exact Kept.refl _ _ | with_reducible refine Kept.drew ?_ | with_reducible refine Kept.alloc ?_ _))⟩ (fun hH => ?_)
              clear hK K
              (try simp only [Act.put, List.setIfInBounds_toArray, List.set_cons_zero, List.set_cons_succ])
              refine wpT_ready (rs := [9]) (by kernel_rfl) (by simp) ?_
              refine AllT.cons rfl (fun K hK => ?_) AllT.nil
              clear hH
              apply stepI
              (case hgd => rfl)
              (case ho => rfl)
              (case hR => (repeat (first | with_reducible exact hst | with_reducible apply Rg.drew | apply Rg.allocK | apply Rg.allocI)))
              (case hs => (rw [HVI.out]; rfl))
              (case hx => rfl)
              (case hb => simp)
              (case hl => rfl)
              (case h1 => simp [Value.oneCell'])
              (case hn => omega)
              all_goals skip
              intro g2 cap2 w9 hst
              obtain ⟨z5, z6, z7, z8⟩ := HZ.out _ hst.keep
              refine hK.out _ _ ⟨HS.out _ (HSM.out _ (by repeat (first | with_reducible exact hst.keep | with_reducible exact Kept.refl _ _ | with_reducible refine Kept.drew ?_ | with_reducible refine Kept.alloc ?_ _))), fun _ => HZ.out _ (by repeat (first | with_reducible exact hst.keep | with_reducible exact Kept.refl _ _ | with_reducible refine Kept.drew ?_ | with_reducible refine Kept.alloc ?_ _))⟩ (fun hH => ?_)
              clear hK K
              (try simp only [Act.put, List.setIfInBounds_toArray])
              refine wpT_ready (rs := [11]) (by kernel_rfl) (by simp) ?_
              refine AllT.cons rfl (fun K hK => ?_) AllT.nil
              clear hH
              go_simp
              refine hK.out _ _ ⟨HS.out _ (by repeat (first | with_reducible exact HSM.out _ hst.keep | with_reducible refine Kept.drew ?_ | with_reducible refine Kept.alloc ?_ _ | refine Kept.setCell ?_ (Or.inr (by simp)) _)), fun h => absurd h (by decide)⟩ (fun hH => ?_)
              clear hK K
              (try simp only [Act.put, List.setIfInBounds_toArray, List.set_cons_zero, List.set_cons_succ])
              refine wpT_takeC (i := 12) (v := ?_) rfl (by kernel_rfl) (by kernel_rfl) (by kernel_rfl) (by kernel_rfl) (by kernel_rfl) (fun _ _ _ h => h) (Or.inl ⟨by rfl, ?_⟩) (by assumption) ?_
              rotate_left 1
              · intro W hSw
                (try dsimp only at hSw)
                go_simp
                (try with_reducible rfl)
              (try simp only [Act.put, List.setIfInBounds_toArray])
              refine wpT_ready (rs := [13]) (by kernel_rfl) (by simp) ?_
              refine AllT.cons rfl (fun K hK => ?_) AllT.nil
              clear hH
              go_simp
              refine hK.out _ _ ⟨HS.out _ (by repeat (first | with_reducible exact HSM.out _ hst.keep | with_reducible refine Kept.drew ?_ | with_reducible refine Kept.alloc ?_ _ | refine Kept.setCell ?_ (Or.inr (by simp)) _)), fun h => absurd h (by decide)⟩ (fun hH => ?_)
              clear hK K
              (try simp only [Act.put, List.setIfInBounds_toArray, List.set_cons_zero, List.set_cons_succ])
              refine wpT_done (by kernel_rfl) ?_ _
              refine NoPanic.normal ?_
              have hput := put_round (y := y) hst rfl HB.out HOO.out.symm hNO hK HOW.out HFL.out (HY.out.kept hK (ltkB (Nat.le_trans hN hK0.size) (by simp))) HKZ.out HSZ.out
              obtain ⟨W2, hW2⟩ : ∃ W2, W2 = (w9.setCell ⟨O, 5, none⟩ (.slice (some ⟨g1, 0, none⟩) (S.length + 1) cap1)).setCell ⟨O, 6, none⟩ (.slice (some ⟨g2, 0, none⟩) (S.length + 1) cap2) := ⟨_, rfl⟩
              obtain ⟨vk2, hvk2⟩ : ∃ v, v = Value.slice (some ⟨g1, 0, none⟩) (S.length + 1) cap1 := ⟨_, rfl⟩
              obtain ⟨vi2, hvi2⟩ : ∃ v, v = Value.slice (some ⟨g2, 0, none⟩) (S.length + 1) cap2 := ⟨_, rfl⟩
              obtain ⟨S2, hS2⟩ : ∃ S2, S2 = S ++ [(key, y)] := ⟨_, rfl⟩
              have hsl2 : S2.length ≤ L.length + 2 := by rw [hS2, List.length_append, List.length_singleton]; omega
              rw [← hW2, ← hvk2, ← hvi2, ← hS2] at hput
              obtain ⟨hK2, hOb2, hout2⟩ := hput
              rw [← hW2]
              have HOb2 := Lib.hid hOb2; have HOut2 := Lib.hid hout2; have HS2 := Lib.hid hS2
              clear hW2 hvk2 hvi2 hS2 hOb2 hout2 hst z5 z6 z7 z8
              go_wp2_with fail
              have hOb2 := HOb2.out; have hout2 := HOut2.out
              obtain ⟨hkr, ⟨cs, hir, hfl⟩, hne, hszS⟩ := hout2
              obtain ⟨ak, ck, hvk⟩ := own_form hkr
              obtain ⟨ai, ci, hvi⟩ := own_form hir
              have hown : ∀ b, vk2.ownBlock = some b ∨ vi2.ownBlock = some b → O + 1 ≤ b := fun b hb => by
                rcases hb with hb | hb
                · exact (ownsRow_lt hkr hb).2
                · exact (ownsRow_lt hir hb).2
              have hOl := lt_of_block hOb2
              have hZ : ∀ W, Kept (vk2.ownBlock.toList ++ vi2.ownBlock.toList) W2 W → W.cell? ⟨O, 5, none⟩ = some (.slice ak S2.length ck) ∧ W.cell? ⟨O, 6, none⟩ = some (.slice ai S2.length ci) ∧ W.frozen? ⟨O, 5, none⟩ = false ∧ W.frozen? ⟨O, 6, none⟩ = false := fun W hW => by
                have hb := hW.block O hOl (fun hm => by have := hown O (by simpa using hm); omega)
                obtain ⟨⟨_, _, _, _, _, y5, y6⟩, _, _, _, _, _, q5, q6⟩ := seven hOb2
                rw [hvk] at y5
                rw [hvi] at y6
                exact ⟨(World.cell?_of_block hb).trans y5, (World.cell?_of_block hb).trans y6, (World.frozen?_of_block hb).trans q5, (World.frozen?_of_block hb).trans q6⟩
              have hSM : ∀ W, Kept (vk2.ownBlock.toList ++ vi2.ownBlock.toList) W2 W → Kept (O :: (vk2.ownBlock.toList ++ vi2.ownBlock.toList)) W2 W := fun W h => h.mono fun x hx _ => List.mem_cons_of_mem _ hx
              have hE : ∀ W, Kept (O :: (vk2.ownBlock.toList ++ vi2.ownBlock.toList)) W2 W → ∀ b p, b < O → W.cell? ⟨b, p, none⟩ = w0.cell? ⟨b, p, none⟩ := fun W hW b p hb => by
                have hin : ∀ x ∈ O :: (vk2.ownBlock.toList ++ vi2.ownBlock.toList), O ≤ x := fun x hx => by
                  rcases List.mem_cons.1 hx with h | h
                  · omega
                  · have := hown x (by simpa using h); omega
                exact (hW.cell (by omega) fun hm => by have := hin _ hm; omega).trans (hK2.cell (by have := HOO.out; omega) (by simp))
              have HSM := Lib.hid hSM; have HZ := Lib.hid hZ; have HE := Lib.hid hE; have HOW := Lib.hid hown; have HSZ := Lib.hid hszS; have HFL := Lib.hid hfl; have HB := Lib.hid hOb2
              have HVK := Lib.hid hvk; have HVI := Lib.hid hvi; clear hvk hvi hSM hZ hE hown hszS hfl
              have hst := Rg.start (.string (L[j]).1) [.int .i64 k', .int .i64 i', .int .i64 g', .float .f64 r', .string s', .slice ka' keys'.length kc', .slice a' kids'.len cap'] hkr hir hne (by omega : O + 1 ≤ W2.heap.size)
              have hS : ∀ W, Kept (O :: (vk2.ownBlock.toList ++ vi2.ownBlock.toList)) W2 W → (W.cell? ⟨w.heap.size, 6, none⟩ = some (.slice (some ⟨b', o', none⟩) L.length cap) ∧
                  W.cell? ⟨b', o' + j * 7, none⟩ = some (.int .i64 k') ∧ W.cell? ⟨b', o' + j * 7 + 1, none⟩ = some (.int .i64 i') ∧ W.cell? ⟨b', o' + j * 7 + 2, none⟩ = some (.int .i64 g') ∧ W.cell? ⟨b', o' + j * 7 + 3, none⟩ = some (.float .f64 r') ∧
                  W.cell? ⟨b', o' + j * 7 + 4, none⟩ = some (.string s') ∧ W.cell? ⟨b', o' + j * 7 + 5, none⟩ = some (.slice ka' keys'.length kc') ∧ W.cell? ⟨b', o' + j * 7 + 6, none⟩ = some (.slice a' kids'.len cap')) := fun W hW => by
                have e := HE.out W hW
                obtain ⟨⟨_, _, _, _, _, _, x6⟩, _⟩ := seven HX.out
                obtain ⟨d0, d1, d2, d3, d4, d5, d6⟩ := HC7.out
                exact ⟨(e _ _ (by omega)).trans x6, (e _ _ hbO).trans d0, (e _ _ hbO).trans d1, (e _ _ hbO).trans d2, (e _ _ hbO).trans d3, (e _ _ hbO).trans d4, (e _ _ hbO).trans d5, (e _ _ hbO).trans d6⟩
              have HS := Lib.hid hS; clear hS hkr hir hne hOb2
              refine wp_region_noPanic ?_
              refine wp_region_T (C := fun W => W.cell? ⟨w.heap.size, 6, none⟩ = some (.slice (some ⟨b', o', none⟩) L.length cap) ∧
                  W.cell? ⟨b', o' + j * 7, none⟩ = some (.int .i64 k') ∧ W.cell? ⟨b', o' + j * 7 + 1, none⟩ = some (.int .i64 i') ∧ W.cell? ⟨b', o' + j * 7 + 2, none⟩ = some (.int .i64 g') ∧ W.cell? ⟨b', o' + j * 7 + 3, none⟩ = some (.float .f64 r') ∧
                  W.cell? ⟨b', o' + j * 7 + 4, none⟩ = some (.string s') ∧ W.cell? ⟨b', o' + j * 7 + 5, none⟩ = some (.slice ka' keys'.length kc') ∧ W.cell? ⟨b', o' + j * 7 + 6, none⟩ = some (.slice a' kids'.len cap'))
                (D := fun W => W.cell? ⟨O, 5, none⟩ = some (.slice ak S2.length ck) ∧ W.cell? ⟨O, 6, none⟩ = some (.slice ai S2.length ci) ∧ W.frozen? ⟨O, 5, none⟩ = false ∧ W.frozen? ⟨O, 6, none⟩ = false) (st := 15) (by kernel_rfl)
                ⟨HS.out _ (Kept.refl _ _).drew, fun _ => HZ.out _ (Kept.refl _ _).drew⟩ (fun hH => ?_)
              refine wpT_takeC (i := 0) (v := ?_) rfl (by kernel_rfl) (by kernel_rfl) (by kernel_rfl) (by kernel_rfl) (by kernel_rfl) (fun _ _ _ h => h) (Or.inl ⟨by rfl, ?_⟩) (by assumption) ?_
              rotate_left 1
              · intro W hSw
                (try dsimp only at hSw)
                go_simp
                (try with_reducible rfl)
              (try simp only [Act.put, List.setIfInBounds_toArray])
              refine wpT_takeD (i := 1) (v := ?_) rfl (by kernel_rfl) (by kernel_rfl) (by kernel_rfl) (by kernel_rfl) (by kernel_rfl) (fun _ _ _ h => h) (Or.inl ⟨by rfl, ?_⟩) (by assumption) ?_
              rotate_left 1
              · intro W hSw
                (try dsimp only at hSw)
                go_simp
                (try with_reducible rfl)
              (try simp only [Act.put])
              refine wpT_takeC (i := 2) (v := ?_) rfl (by kernel_rfl) (by kernel_rfl) (by kernel_rfl) (by kernel_rfl) (by kernel_rfl) (fun _ _ _ h => h) (Or.inl ⟨by rfl, ?_⟩) (by assumption) ?_
              rotate_left 1
              · intro W hSw
                (try dsimp only at hSw)
                go_simp
                (try with_reducible rfl)
              (try simp only [Act.put])
              refine wpT_takeC (i := 5) (v := ?_) rfl (by kernel_rfl) (by kernel_rfl) (by kernel_rfl) (by kernel_rfl) (by kernel_rfl) (fun _ _ _ h => h) (Or.inl ⟨by rfl, ?_⟩) (by assumption) ?_
              rotate_left 1
              · intro W hSw
                (try dsimp only at hSw)
                go_simp
                (try with_reducible rfl)
              (try simp only [Act.put])
              refine wpT_takeD (i := 6) (v := ?_) rfl (by kernel_rfl) (by kernel_rfl) (by kernel_rfl) (by kernel_rfl) (by kernel_rfl) (fun _ _ _ h => h) (Or.inl ⟨by rfl, ?_⟩) (by assumption) ?_
              rotate_left 1
              · intro W hSw
                (try dsimp only at hSw)
                go_simp
                (try with_reducible rfl)
              (try simp only [Act.put])
              refine wpT_takeC (i := 7) (v := ?_) rfl (by kernel_rfl) (by kernel_rfl) (by kernel_rfl) (by kernel_rfl) (by kernel_rfl) (fun _ _ _ h => h) (Or.inl ⟨by rfl, ?_⟩) (by assumption) ?_
              rotate_left 1
              · intro W hSw
                (try dsimp only at hSw)
                go_simp
                (try with_reducible rfl)
              (try simp only [Act.put])
              refine wpT_takeC (i := 8) (v := ?_) rfl (by kernel_rfl) (by kernel_rfl) (by kernel_rfl) (by kernel_rfl) (by kernel_rfl) (fun _ _ _ h => h) (Or.inl ⟨by rfl, ?_⟩) (by assumption) ?_
              rotate_left 1
              · intro W hSw
                (try dsimp only at hSw)
                go_simp
                (try with_reducible rfl)
              (try simp only [Act.put])
              refine wpT_takeC (i := 9) (v := ?_) rfl (by kernel_rfl) (by kernel_rfl) (by kernel_rfl) (by kernel_rfl) (by kernel_rfl) (fun _ _ _ h => h) (Or.inl ⟨by rfl, ?_⟩) (by assumption) ?_
              rotate_left 1
              · intro W hSw
                (try dsimp only at hSw)
                go_simp
                (try with_reducible rfl)
              (try simp only [Act.put])
              refine wpT_takeC (i := 10) (v := ?_) rfl (by kernel_rfl) (by kernel_rfl) (by kernel_rfl) (by kernel_rfl) (by kernel_rfl) (fun _ _ _ h => h) (Or.inl ⟨by rfl, ?_⟩) (by assumption) ?_
              rotate_left 1
              · intro W hSw
                (try dsimp only at hSw)
                go_simp
                (try with_reducible rfl)
              (try simp only [Act.put])
              refine wpT_takeC (i := 11) (v := ?_) rfl (by kernel_rfl) (by kernel_rfl) (by kernel_rfl) (by kernel_rfl) (by kernel_rfl) (fun _ _ _ h => h) (Or.inl ⟨by rfl, ?_⟩) (by assumption) ?_
              rotate_left 1
              · intro W hSw
                (try dsimp only at hSw)
                go_simp
                (try with_reducible rfl)
              (try simp only [Act.put])
              refine wpT_ready (rs := [3, 12]) (by kernel_rfl) (by simp) ?_
              refine AllT.cons rfl (fun K hK => ?_) (AllT.cons rfl (fun K hK => ?_) AllT.nil)
              · skip
                clear hH
                go_simp
                refine hK.out _ _ ⟨HS.out _ (HSM.out _ (by repeat (first | with_reducible exact hst.keep | with_reducible exact Kept.refl _ _ | with_reducible refine Kept.drew ?_ | with_reducible refine Kept.alloc ?_ _))), fun _ => HZ.out _ (by repeat (first | with_reducible exact hst.keep | with_reducible exact Kept.refl _ _ | with_reducible refine Kept.drew ?_ | with_reducible refine Kept.alloc ?_ _))⟩ (fun hH => ?_)
                clear hK K
                (try simp only [Act.put, List.setIfInBounds_toArray, List.set_cons_zero, List.set_cons_succ])
                refine wpT_ready (rs := [4, 12]) (by kernel_rfl) (by simp) ?_
                refine AllT.cons rfl (fun K hK => ?_) (AllT.cons rfl (fun K hK => ?_) AllT.nil)
                · skip
                  clear hH
                  apply stepK
                  (case hgd => rfl)
                  (case ho => rfl)
                  (case hR => (repeat (first | with_reducible exact hst | with_reducible apply Rg.drew | apply Rg.allocK | apply Rg.allocI)))
                  (case hs => (rw [HVK.out]; rfl))
                  (case hx => rfl)
                  (case hb => simp)
                  (case h1 => rfl)
                  (case hn => omega)
                  all_goals skip
                  intro g1 cap1 w9 hst
                  refine hK.out _ _ ⟨HS.out _ (HSM.out _ (by repeat (first | with_reducible exact hst.keep | with_reducible exact Kept.refl _ _ | with_reducible refine Kept.drew ?_ | with_reducible refine Kept.alloc ?_ _))), fun _ => HZ.out _ (by repeat (first | with_reducible exact hst.keep | with_reducible exact Kept.refl _ _ | with_reducible refine Kept.drew ?_ | with_reducible refine Kept.alloc ?_ _))⟩ (fun hH => ?_)
                  clear hK K
                  (try simp only [Act.put, List.setIfInBounds_toArray])
                  refine wpT_takeC (i := 14) (v := ?_) rfl (by kernel_rfl) (by kernel_rfl) (by kernel_rfl) (by kernel_rfl) (by kernel_rfl) (fun _ _ _ h => h) (Or.inl ⟨by rfl, ?_⟩) (by assumption) ?_
                  rotate_left 1
                  · intro W hSw
                    (try dsimp only at hSw)
                    go_simp
                    (try with_reducible rfl)
                  (try simp only [Act.put])
                  refine wpT_ready (rs := [12]) (by kernel_rfl) (by simp) ?_
                  refine AllT.cons rfl (fun K hK => ?_) AllT.nil
                  clear hH
                  go_simp
                  refine hK.out _ _ ⟨HS.out _ (HSM.out _ (by repeat (first | with_reducible exact hst.keep | with_reducible exact Kept.refl _ _ | with_reducible refine Kept.drew ?_ | with_reducible refine Kept.alloc ?_ _))), fun _ => HZ.out _ (by repeat (first | with_reducible exact hst.keep | with_reducible exact Kept.refl _ _ | with_reducible refine Kept.drew ?_ | with_reducible refine Kept.alloc ?_ _))⟩ (fun hH => ?_)
                  clear hK K
                  (try simp only [Act.put, List.setIfInBounds_toArray, List.set_cons_zero, List.set_cons_succ])
                  refine wpT_ready (rs := [13]) (by kernel_rfl) (by simp) ?_
                  refine AllT.cons rfl (fun K hK => ?_) AllT.nil
                  clear hH
                  apply stepI
                  (case hgd => rfl)
                  (case ho => rfl)
                  (case hR => (repeat (first | with_reducible exact hst | with_reducible apply Rg.drew | apply Rg.allocK | apply Rg.allocI)))
                  (case hs => (rw [HVI.out]; rfl))
                  (case hx => rfl)
                  (case hb => simp)
                  (case hl => rfl)
                  (case h1 => simp [Value.oneCell'])
                  (case hn => omega)
                  all_goals skip
                  intro g2 cap2 w9 hst
                  obtain ⟨z5, z6, z7, z8⟩ := HZ.out _ hst.keep
                  refine hK.out _ _ ⟨HS.out _ (HSM.out _ (by repeat (first | with_reducible exact hst.keep | with_reducible exact Kept.refl _ _ | with_reducible refine Kept.drew ?_ | with_reducible refine Kept.alloc ?_ _))), fun _ => HZ.out _ (by repeat (first | with_reducible exact hst.keep | with_reducible exact Kept.refl _ _ | with_reducible refine Kept.drew ?_ | with_reducible refine Kept.alloc ?_ _))⟩ (fun hH => ?_)
                  clear hK K
                  (try simp only [Act.put, List.setIfInBounds_toArray])
                  refine wpT_ready (rs := [15]) (by kernel_rfl) (by simp) ?_
                  refine AllT.cons rfl (fun K hK => ?_) AllT.nil
                  clear hH
                  go_simp
                  refine hK.out _ _ ⟨HS.out _ (by repeat (first | with_reducible exact HSM.out _ hst.keep | with_reducible refine Kept.drew ?_ | with_reducible refine Kept.alloc ?_ _ | refine Kept.setCell ?_ (Or.inr (by simp)) _)), fun h => absurd h (by decide)⟩ (fun hH => ?_)
                  clear hK K
                  (try simp only [Act.put, List.setIfInBounds_toArray, List.set_cons_zero, List.set_cons_succ])
                  refine wpT_takeC (i := 16) (v := ?_) rfl (by kernel_rfl) (by kernel_rfl) (by kernel_rfl) (by kernel_rfl) (by kernel_rfl) (fun _ _ _ h => h) (Or.inl ⟨by rfl, ?_⟩) (by assumption) ?_
                  rotate_left 1
                  · intro W hSw
                    (try dsimp only at hSw)
                    go_simp
                    (try with_reducible rfl)
                  (try simp only [Act.put, List.setIfInBounds_toArray])
                  refine wpT_ready (rs := [17]) (by kernel_rfl) (by simp) ?_
                  refine AllT.cons rfl (fun K hK => ?_) AllT.nil
                  clear hH
                  go_simp
                  refine hK.out _ _ ⟨HS.out _ (by repeat (first | with_reducible exact HSM.out _ hst.keep | with_reducible refine Kept.drew ?_ | with_reducible refine Kept.alloc ?_ _ | refine Kept.setCell ?_ (Or.inr (by simp)) _)), fun h => absurd h (by decide)⟩ (fun hH => ?_)
                  clear hK K
                  (try simp only [Act.put, List.setIfInBounds_toArray, List.set_cons_zero, List.set_cons_succ])
                  refine wpT_done (by kernel_rfl) ?_ _
                  refine NoPanic.normal ?_
                  have hput := put_round (y := (⟨k', i', g', r', s', keys', kids'⟩ : Nd)) hst rfl HB.out HOO.out.symm hNO hK2 HOW.out HFL.out (HND.out.kept hK2 (ltkB (Nat.le_trans hN hK0.size) (by simp))) hsz HSZ.out
                  rw [← HPJ.out] at hput
                  have HPU := Lib.hid hput; clear hput hst
                  go_wp2_with fail
                  exact ⟨⟨j + 1, S2 ++ [L[j]], _, _, _, by go_num, rfl, by omega, HPU.out.1, HPU.out.2.1, HPU.out.2.2, by rw [take_more hlt, HS2.out]; exact HQ.out⟩, by simp [intOf]; omega⟩
                · skip
                  clear hH
                  go_simp
                  refine hK.out _ _ ⟨HS.out _ (HSM.out _ (by repeat (first | with_reducible exact hst.keep | with_reducible exact Kept.refl _ _ | with_reducible refine Kept.drew ?_ | with_reducible refine Kept.alloc ?_ _))), fun _ => HZ.out _ (by repeat (first | with_reducible exact hst.keep | with_reducible exact Kept.refl _ _ | with_reducible refine Kept.drew ?_ | with_reducible refine Kept.alloc ?_ _))⟩ (fun hH => ?_)
                  clear hK K
                  (try simp only [Act.put, List.setIfInBounds_toArray, List.set_cons_zero, List.set_cons_succ])
                  refine wpT_ready (rs := [4]) (by kernel_rfl) (by simp) ?_
                  refine AllT.cons rfl (fun K hK => ?_) AllT.nil
                  clear hH
                  apply stepK
                  (case hgd => rfl)
                  (case ho => rfl)
                  (case hR => (repeat (first | with_reducible exact hst | with_reducible apply Rg.drew | apply Rg.allocK | apply Rg.allocI)))
                  (case hs => (rw [HVK.out]; rfl))
                  (case hx => rfl)
                  (case hb => simp)
                  (case h1 => rfl)
                  (case hn => omega)
                  all_goals skip
                  intro g1 cap1 w9 hst
                  refine hK.out _ _ ⟨HS.out _ (HSM.out _ (by repeat (first | with_reducible exact hst.keep | with_reducible exact Kept.refl _ _ | with_reducible refine Kept.drew ?_ | with_reducible refine Kept.alloc ?_ _))), fun _ => HZ.out _ (by repeat (first | with_reducible exact hst.keep | with_reducible exact Kept.refl _ _ | with_reducible refine Kept.drew ?_ | with_reducible refine Kept.alloc ?_ _))⟩ (fun hH => ?_)
                  clear hK K
                  (try simp only [Act.put, List.setIfInBounds_toArray])
                  refine wpT_takeC (i := 14) (v := ?_) rfl (by kernel_rfl) (by kernel_rfl) (by kernel_rfl) (by kernel_rfl) (by kernel_rfl) (fun _ _ _ h => h) (Or.inl ⟨by rfl, ?_⟩) (by assumption) ?_
                  rotate_left 1
                  · intro W hSw
                    (try dsimp only at hSw)
                    go_simp
                    (try with_reducible rfl)
                  (try simp only [Act.put])
                  refine wpT_ready (rs := [13]) (by kernel_rfl) (by simp) ?_
                  refine AllT.cons rfl (fun K hK => ?_) AllT.nil
                  clear hH
                  apply stepI
                  (case hgd => rfl)
                  (case ho => rfl)
                  (case hR => (repeat (first | with_reducible exact hst | with_reducible apply Rg.drew | apply Rg.allocK | apply Rg.allocI)))
                  (case hs => (rw [HVI.out]; rfl))
                  (case hx => rfl)
                  (case hb => simp)
                  (case hl => rfl)
                  (case h1 => simp [Value.oneCell'])
                  (case hn => omega)
                  all_goals skip
                  intro g2 cap2 w9 hst
                  obtain ⟨z5, z6, z7, z8⟩ := HZ.out _ hst.keep
                  refine hK.out _ _ ⟨HS.out _ (HSM.out _ (by repeat (first | with_reducible exact hst.keep | with_reducible exact Kept.refl _ _ | with_reducible refine Kept.drew ?_ | with_reducible refine Kept.alloc ?_ _))), fun _ => HZ.out _ (by repeat (first | with_reducible exact hst.keep | with_reducible exact Kept.refl _ _ | with_reducible refine Kept.drew ?_ | with_reducible refine Kept.alloc ?_ _))⟩ (fun hH => ?_)
                  clear hK K
                  (try simp only [Act.put])
                  refine wpT_ready (rs := [15]) (by kernel_rfl) (by simp) ?_
                  refine AllT.cons rfl (fun K hK => ?_) AllT.nil
                  clear hH
                  go_simp
                  refine hK.out _ _ ⟨HS.out _ (by repeat (first | with_reducible exact HSM.out _ hst.keep | with_reducible refine Kept.drew ?_ | with_reducible refine Kept.alloc ?_ _ | refine Kept.setCell ?_ (Or.inr (by simp)) _)), fun h => absurd h (by decide)⟩ (fun hH => ?_)
                  clear hK K
                  (try simp only [Act.put, List.setIfInBounds_toArray, List.set_cons_zero, List.set_cons_succ])
                  refine wpT_takeC (i := 16) (v := ?_) rfl (by kernel_rfl) (by kernel_rfl) (by kernel_rfl) (by kernel_rfl) (by kernel_rfl) (fun _ _ _ h => h) (Or.inl ⟨by rfl, ?_⟩) (by assumption) ?_
                  rotate_left 1
                  · intro W hSw
                    (try dsimp only at hSw)
                    go_simp
                    (try with_reducible rfl)
                  (try simp only [Act.put, List.setIfInBounds_toArray])
                  refine wpT_ready (rs := [17]) (by kernel_rfl) (by simp) ?_
                  refine AllT.cons rfl (fun K hK => ?_) AllT.nil
                  clear hH
                  go_simp
                  refine hK.out _ _ ⟨HS.out _ (by repeat (first | with_reducible exact HSM.out _ hst.keep | with_reducible refine Kept.drew ?_ | with_reducible refine Kept.alloc ?_ _ | refine Kept.setCell ?_ (Or.inr (by simp)) _)), fun h => absurd h (by decide)⟩ (fun hH => ?_)
                  clear hK K
                  (try simp only [Act.put, List.setIfInBounds_toArray, List.set_cons_zero, List.set_cons_succ])
                  refine wpT_done (by kernel_rfl) ?_ _
                  refine NoPanic.normal ?_
                  have hput := put_round (y := (⟨k', i', g', r', s', keys', kids'⟩ : Nd)) hst rfl HB.out HOO.out.symm hNO hK2 HOW.out HFL.out (HND.out.kept hK2 (ltkB (Nat.le_trans hN hK0.size) (by simp))) hsz HSZ.out
                  rw [← HPJ.out] at hput
                  have HPU := Lib.hid hput; clear hput hst
                  go_wp2_with fail
                  exact ⟨⟨j + 1, S2 ++ [L[j]], _, _, _, by go_num, rfl, by omega, HPU.out.1, HPU.out.2.1, HPU.out.2.2, by rw [take_more hlt, HS2.out]; exact HQ.out⟩, by simp [intOf]; omega⟩
              · skip
                clear hH
                go_simp
                refine hK.out _ _ ⟨HS.out _ (HSM.out _ (by repeat (first | with_reducible exact hst.keep | with_reducible exact Kept.refl _ _ | with_reducible refine Kept.drew ?_ | with_reducible refine Kept.alloc ?_ _))), fun _ => HZ.out _ (by repeat (first | with_reducible exact hst.keep | with_reducible exact Kept.refl _ _ | with_reducible refine Kept.drew ?_ | with_reducible refine Kept.alloc ?_ _))⟩ (fun hH => ?_)
                clear hK K
                (try simp only [Act.put, List.setIfInBounds_toArray, List.set_cons_zero, List.set_cons_succ])
                refine wpT_ready (rs := [3]) (by kernel_rfl) (by simp) ?_
                refine AllT.cons rfl (fun K hK => ?_) AllT.nil
                clear hH
                go_simp
                refine hK.out _ _ ⟨HS.out _ (HSM.out _ (by repeat (first | with_reducible exact hst.keep | with_reducible exact Kept.refl _ _ | with_reducible refine Kept.drew ?_ | with_reducible refine Kept.alloc ?_ _))), fun _ => HZ.out _ (by repeat (first | with_reducible exact hst.keep | with_reducible exact Kept.refl _ _ | with_reducible refine Kept.drew ?_ | with_reducible refine Kept.alloc ?_ _))⟩ (fun hH => ?_)
                clear hK K
                (try simp only [Act.put, List.setIfInBounds_toArray, List.set_cons_zero, List.set_cons_succ])
                refine wpT_ready (rs := [4]) (by kernel_rfl) (by simp) ?_
                refine AllT.cons rfl (fun K hK => ?_) AllT.nil
                clear hH
                apply stepK
                (case hgd => rfl)
                (case ho => rfl)
                (case hR => (repeat (first | with_reducible exact hst | with_reducible apply Rg.drew | apply Rg.allocK | apply Rg.allocI)))
                (case hs => (rw [HVK.out]; rfl))
                (case hx => rfl)
                (case hb => simp)
                (case h1 => rfl)
                (case hn => omega)
                all_goals skip
                intro g1 cap1 w9 hst
                refine hK.out _ _ ⟨HS.out _ (HSM.out _ (by repeat (first | with_reducible exact hst.keep | with_reducible exact Kept.refl _ _ | with_reducible refine Kept.drew ?_ | with_reducible refine Kept.alloc ?_ _))), fun _ => HZ.out _ (by repeat (first | with_reducible exact hst.keep | with_reducible exact Kept.refl _ _ | with_reducible refine Kept.drew ?_ | with_reducible refine Kept.alloc ?_ _))⟩ (fun hH => ?_)
                clear hK K
                (try simp only [Act.put, List.setIfInBounds_toArray])
                refine wpT_takeC (i := 14) (v := ?_) rfl (by kernel_rfl) (by kernel_rfl) (by kernel_rfl) (by kernel_rfl) (by kernel_rfl) (fun _ _ _ h => h) (Or.inl ⟨by rfl, ?_⟩) (by assumption) ?_
                rotate_left 1
                · intro W hSw
                  (try dsimp only at hSw)
                  go_simp
                  (try with_reducible rfl)
                (try simp only [Act.put])
                refine wpT_ready (rs := [13]) (by kernel_rfl) (by simp) ?_
                refine AllT.cons rfl (fun K hK => ?_) AllT.nil
                clear hH
                apply stepI
                (case hgd => rfl)
                (case ho => rfl)
                (case hR => (repeat (first | with_reducible exact hst | with_reducible apply Rg.drew | apply Rg.allocK | apply Rg.allocI)))
                (case hs => (rw [HVI.out]; rfl))
                (case hx => rfl)
                (case hb => simp)
                (case hl => rfl)
                (case h1 => simp [Value.oneCell'])
                (case hn => omega)
                all_goals skip
                intro g2 cap2 w9 hst
                obtain ⟨z5, z6, z7, z8⟩ := HZ.out _ hst.keep
                refine hK.out _ _ ⟨HS.out _ (HSM.out _ (by repeat (first | with_reducible exact hst.keep | with_reducible exact Kept.refl _ _ | with_reducible refine Kept.drew ?_ | with_reducible refine Kept.alloc ?_ _))), fun _ => HZ.out _ (by repeat (first | with_reducible exact hst.keep | with_reducible exact Kept.refl _ _ | with_reducible refine Kept.drew ?_ | with_reducible refine Kept.alloc ?_ _))⟩ (fun hH => ?_)
                clear hK K
                (try simp only [Act.put])
                refine wpT_ready (rs := [15]) (by kernel_rfl) (by simp) ?_
                refine AllT.cons rfl (fun K hK => ?_) AllT.nil
                clear hH
                go_simp
                refine hK.out _ _ ⟨HS.out _ (by repeat (first | with_reducible exact HSM.out _ hst.keep | with_reducible refine Kept.drew ?_ | with_reducible refine Kept.alloc ?_ _ | refine Kept.setCell ?_ (Or.inr (by simp)) _)), fun h => absurd h (by decide)⟩ (fun hH => ?_)
                clear hK K
                (try simp only [Act.put, List.setIfInBounds_toArray, List.set_cons_zero, List.set_cons_succ])
                refine wpT_takeC (i := 16) (v := ?_) rfl (by kernel_rfl) (by kernel_rfl) (by kernel_rfl) (by kernel_rfl) (by kernel_rfl) (fun _ _ _ h => h) (Or.inl ⟨by rfl, ?_⟩) (by assumption) ?_
                rotate_left 1
                · intro W hSw
                  (try dsimp only at hSw)
                  go_simp
                  (try with_reducible rfl)
                (try simp only [Act.put, List.setIfInBounds_toArray])
                refine wpT_ready (rs := [17]) (by kernel_rfl) (by simp) ?_
                refine AllT.cons rfl (fun K hK => ?_) AllT.nil
                clear hH
                go_simp
                refine hK.out _ _ ⟨HS.out _ (by repeat (first | with_reducible exact HSM.out _ hst.keep | with_reducible refine Kept.drew ?_ | with_reducible refine Kept.alloc ?_ _ | refine Kept.setCell ?_ (Or.inr (by simp)) _)), fun h => absurd h (by decide)⟩ (fun hH => ?_)
                clear hK K
                (try simp only [Act.put, List.setIfInBounds_toArray, List.set_cons_zero, List.set_cons_succ])
                refine wpT_done (by kernel_rfl) ?_ _
                refine NoPanic.normal ?_
                have hput := put_round (y := (⟨k', i', g', r', s', keys', kids'⟩ : Nd)) hst rfl HB.out HOO.out.symm hNO hK2 HOW.out HFL.out (HND.out.kept hK2 (ltkB (Nat.le_trans hN hK0.size) (by simp))) hsz HSZ.out
                rw [← HPJ.out] at hput
                have HPU := Lib.hid hput; clear hput hst
                go_wp2_with fail
                exact ⟨⟨j + 1, S2 ++ [L[j]], _, _, _, by go_num, rfl, by omega, HPU.out.1, HPU.out.2.1, HPU.out.2.2, by rw [take_more hlt, HS2.out]; exact HQ.out⟩, by simp [intOf]; omega⟩
            · skip
              clear hH
              go_simp
              refine hK.out _ _ ⟨HS.out _ (HSM.out _ (by repeat (first | with_reducible exact hst.keep | with_reducible exact Kept.refl _ _ | with_reducible refine Kept.drew ?_ | with_reducible refine Kept.alloc ?_ _))), fun _ => HZ.out _ (by repeat (first | with_reducible exact hst.keep | with_reducible exact Kept.refl _ _ | with_reducible refine Kept.drew ?_ | with_reducible refine Kept.alloc ?_ _))⟩ (fun hH => ?_)
              clear hK K
              (try simp only [Act.put, List.setIfInBounds_toArray, List.set_cons_zero, List.set_cons_succ])
              refine wpT_ready (rs := [4]) (by kernel_rfl) (by simp) ?_
              refine AllT.cons rfl (fun K hK => ?_) AllT.nil
              clear hH
              apply stepK
              (case hgd => rfl)
              (case ho => rfl)
              (case hR => (repeat (first | with_reducible exact hst | with_reducible apply Rg.drew | apply Rg.allocK | apply Rg.allocI)))
              (case hs => (rw [HVK.out]; rfl))
              (case hx => rfl)
              (case hb => simp)
              (case h1 => rfl)
              (case hn => omega)
              all_goals skip
              intro g1 cap1 w9 hst
              refine hK.out _ _ ⟨HS.out _ (HSM.out _ (by repeat (first | with_reducible exact hst.keep | with_reducible exact Kept.refl _ _ | with_reducible refine Kept.drew ?_ | with_reducible refine Kept.alloc ?_ _))), fun _ => HZ.out _ (by repeat (first | with_reducible exact hst.keep | with_reducible exact Kept.refl _ _ | with_reducible refine Kept.drew ?_ | with_reducible refine Kept.alloc ?_ _))⟩ (fun hH => ?_)
              clear hK K
              (try simp only [Act.put, List.setIfInBounds_toArray])
              refine wpT_takeC (i := 10) (v := ?_) rfl (by kernel_rfl) (by kernel_rfl) (by kernel_rfl) (by kernel_rfl) (by kernel_rfl) (fun _ _ _ h => h) (Or.inl ⟨by rfl, ?_⟩) (by assumption) ?_
              rotate_left 1
              · intro W hSw
                (try dsimp only at hSw)
                go_simp
                (try with_reducible rfl)
              (try simp only [Act.put])
              refine wpT_ready (rs := [9]) (by kernel_rfl) (by simp) ?_
              refine AllT.cons rfl (fun K hK => ?_) AllT.nil
              clear hH
              apply stepI
              (case hgd => rfl)
              (case ho => rfl)
              (case hR => (repeat (first | with_reducible exact hst | with_reducible apply Rg.drew | apply Rg.allocK | apply Rg.allocI)))
              (case hs => (rw [HVI.out]; rfl))
              (case hx => rfl)
              (case hb => simp)
              (case hl => rfl)
              (case h1 => simp [Value.oneCell'])
              (case hn => omega)
              all_goals skip
              intro g2 cap2 w9 hst
              obtain ⟨z5, z6, z7, z8⟩ := HZ.out _ hst.keep
              refine hK.out _ _ ⟨HS.out _ (HSM.out _ (by repeat (first | with_reducible exact hst.keep | with_reducible exact Kept.refl _ _ | with_reducible refine Kept.drew ?_ | with_reducible refine Kept.alloc ?_ _))), fun _ => HZ.out _ (by repeat (first | with_reducible exact hst.keep | with_reducible exact Kept.refl _ _ | with_reducible refine Kept.drew ?_ | with_reducible refine Kept.alloc ?_ _))⟩ (fun hH => ?_)
              clear hK K
              (try simp only [Act.put])
              refine wpT_ready (rs := [11]) (by kernel_rfl) (by simp) ?_
              refine AllT.cons rfl (fun K hK => ?_) AllT.nil
              clear hH
              go_simp
              refine hK.out _ _ ⟨HS.out _ (by repeat (first | with_reducible exact HSM.out _ hst.keep | with_reducible refine Kept.drew ?_ | with_reducible refine Kept.alloc ?_ _ | refine Kept.setCell ?_ (Or.inr (by simp)) _)), fun h => absurd h (by decide)⟩ (fun hH => ?_)
              clear hK K
              (try simp only [Act.put, List.setIfInBounds_toArray, List.set_cons_zero, List.set_cons_succ])
              refine wpT_takeC (i := 12) (v := ?_) rfl (by kernel_rfl) (by kernel_rfl) (by kernel_rfl) (by kernel_rfl) (by kernel_rfl) (fun _ _ _ h => h) (Or.inl ⟨by rfl, ?_⟩) (by assumption) ?_
              rotate_left 1
              · intro W hSw
                (try dsimp only at hSw)
                go_simp
                (try with_reducible rfl)
              (try simp only [Act.put, List.setIfInBounds_toArray])
              refine wpT_ready (rs := [13]) (by kernel_rfl) (by simp) ?_
              refine AllT.cons rfl (fun K hK => ?_) AllT.nil
              clear hH
              go_simp
              refine hK.out _ _ ⟨HS.out _ (by repeat (first | with_reducible exact HSM.out _ hst.keep | with_reducible refine Kept.drew ?_ | with_reducible refine Kept.alloc ?_ _ | refine Kept.setCell ?_ (Or.inr (by simp)) _)), fun h => absurd h (by decide)⟩ (fun hH => ?_)
              clear hK K
              (try simp only [Act.put, List.setIfInBounds_toArray, List.set_cons_zero, List.set_cons_succ])
              refine wpT_done (by kernel_rfl) ?_ _
              refine NoPanic.normal ?_
              have hput := put_round (y := y) hst rfl HB.out HOO.out.symm hNO hK HOW.out HFL.out (HY.out.kept hK (ltkB (Nat.le_trans hN hK0.size) (by simp))) HKZ.out HSZ.out
              obtain ⟨W2, hW2⟩ : ∃ W2, W2 = (w9.setCell ⟨O, 5, none⟩ (.slice (some ⟨g1, 0, none⟩) (S.length + 1) cap1)).setCell ⟨O, 6, none⟩ (.slice (some ⟨g2, 0, none⟩) (S.length + 1) cap2) := ⟨_, rfl⟩
              obtain ⟨vk2, hvk2⟩ : ∃ v, v = Value.slice (some ⟨g1, 0, none⟩) (S.length + 1) cap1 := ⟨_, rfl⟩
              obtain ⟨vi2, hvi2⟩ : ∃ v, v = Value.slice (some ⟨g2, 0, none⟩) (S.length + 1) cap2 := ⟨_, rfl⟩
              obtain ⟨S2, hS2⟩ : ∃ S2, S2 = S ++ [(key, y)] := ⟨_, rfl⟩
              have hsl2 : S2.length ≤ L.length + 2 := by rw [hS2, List.length_append, List.length_singleton]; omega
              rw [← hW2, ← hvk2, ← hvi2, ← hS2] at hput
              obtain ⟨hK2, hOb2, hout2⟩ := hput
              rw [← hW2]
              have HOb2 := Lib.hid hOb2; have HOut2 := Lib.hid hout2; have HS2 := Lib.hid hS2
              clear hW2 hvk2 hvi2 hS2 hOb2 hout2 hst z5 z6 z7 z8
              go_wp2_with fail
              have hOb2 := HOb2.out; have hout2 := HOut2.out
              obtain ⟨hkr, ⟨cs, hir, hfl⟩, hne, hszS⟩ := hout2
              obtain ⟨ak, ck, hvk⟩ := own_form hkr
              obtain ⟨ai, ci, hvi⟩ := own_form hir
              have hown : ∀ b, vk2.ownBlock = some b ∨ vi2.ownBlock = some b → O + 1 ≤ b := fun b hb => by
                rcases hb with hb | hb
                · exact (ownsRow_lt hkr hb).2
                · exact (ownsRow_lt hir hb).2
              have hOl := lt_of_block hOb2
              have hZ : ∀ W, Kept (vk2.ownBlock.toList ++ vi2.ownBlock.toList) W2 W → W.cell? ⟨O, 5, none⟩ = some (.slice ak S2.length ck) ∧ W.cell? ⟨O, 6, none⟩ = some (.slice ai S2.length ci) ∧ W.frozen? ⟨O, 5, none⟩ = false ∧ W.frozen? ⟨O, 6, none⟩ = false := fun W hW => by
                have hb := hW.block O hOl (fun hm => by have := hown O (by simpa using hm); omega)
                obtain ⟨⟨_, _, _, _, _, y5, y6⟩, _, _, _, _, _, q5, q6⟩ := seven hOb2
                rw [hvk] at y5
                rw [hvi] at y6
                exact ⟨(World.cell?_of_block hb).trans y5, (World.cell?_of_block hb).trans y6, (World.frozen?_of_block hb).trans q5, (World.frozen?_of_block hb).trans q6⟩
              have hSM : ∀ W, Kept (vk2.ownBlock.toList ++ vi2.ownBlock.toList) W2 W → Kept (O :: (vk2.ownBlock.toList ++ vi2.ownBlock.toList)) W2 W := fun W h => h.mono fun x hx _ => List.mem_cons_of_mem _ hx
              have hE : ∀ W, Kept (O :: (vk2.ownBlock.toList ++ vi2.ownBlock.toList)) W2 W → ∀ b p, b < O → W.cell? ⟨b, p, none⟩ = w0.cell? ⟨b, p, none⟩ := fun W hW b p hb => by
                have hin : ∀ x ∈ O :: (vk2.ownBlock.toList ++ vi2.ownBlock.toList), O ≤ x := fun x hx => by
                  rcases List.mem_cons.1 hx with h | h
                  · omega
                  · have := hown x (by simpa using h); omega
                exact (hW.cell (by omega) fun hm => by have := hin _ hm; omega).trans (hK2.cell (by have := HOO.out; omega) (by simp))
              have HSM := Lib.hid hSM; have HZ := Lib.hid hZ; have HE := Lib.hid hE; have HOW := Lib.hid hown; have HSZ := Lib.hid hszS; have HFL := Lib.hid hfl; have HB := Lib.hid hOb2
              have HVK := Lib.hid hvk; have HVI := Lib.hid hvi; clear hvk hvi hSM hZ hE hown hszS hfl
              have hst := Rg.start (.string (L[j]).1) [.int .i64 k', .int .i64 i', .int .i64 g', .float .f64 r', .string s', .slice ka' keys'.length kc', .slice a' kids'.len cap'] hkr hir hne (by omega : O + 1 ≤ W2.heap.size)
              have hS : ∀ W, Kept (O :: (vk2.ownBlock.toList ++ vi2.ownBlock.toList)) W2 W → (W.cell? ⟨w.heap.size, 6, none⟩ = some (.slice (some ⟨b', o', none⟩) L.length cap) ∧
                  W.cell? ⟨b', o' + j * 7, none⟩ = some (.int .i64 k') ∧ W.cell? ⟨b', o' + j * 7 + 1, none⟩ = some (.int .i64 i') ∧ W.cell? ⟨b', o' + j * 7 + 2, none⟩ = some (.int .i64 g') ∧ W.cell? ⟨b', o' + j * 7 + 3, none⟩ = some (.float .f64 r') ∧
                  W.cell? ⟨b', o' + j * 7 + 4, none⟩ = some (.string s') ∧ W.cell? ⟨b', o' + j * 7 + 5, none⟩ = some (.slice ka' keys'.length kc') ∧ W.cell? ⟨b', o' + j * 7 + 6, none⟩ = some (.slice a' kids'.len cap')) := fun W hW => by
                have e := HE.out W hW
                obtain ⟨⟨_, _, _, _, _, _, x6⟩, _⟩ := seven HX.out
                obtain ⟨d0, d1, d2, d3, d4, d5, d6⟩ := HC7.out
                exact ⟨(e _ _ (by omega)).trans x6, (e _ _ hbO).trans d0, (e _ _ hbO).trans d1, (e _ _ hbO).trans d2, (e _ _ hbO).trans d3, (e _ _ hbO).trans d4, (e _ _ hbO).trans d5, (e _ _ hbO).trans d6⟩
              have HS := Lib.hid hS; clear hS hkr hir hne hOb2
              refine wp_region_noPanic ?_
              refine wp_region_T (C := fun W => W.cell? ⟨w.heap.size, 6, none⟩ = some (.slice (some ⟨b', o', none⟩) L.length cap) ∧
                  W.cell? ⟨b', o' + j * 7, none⟩ = some (.int .i64 k') ∧ W.cell? ⟨b', o' + j * 7 + 1, none⟩ = some (.int .i64 i') ∧ W.cell? ⟨b', o' + j * 7 + 2, none⟩ = some (.int .i64 g') ∧ W.cell? ⟨b', o' + j * 7 + 3, none⟩ = some (.float .f64 r') ∧
                  W.cell? ⟨b', o' + j * 7 + 4, none⟩ = some (.string s') ∧ W.cell? ⟨b', o' + j * 7 + 5, none⟩ = some (.slice ka' keys'.length kc') ∧ W.cell? ⟨b', o' + j * 7 + 6, none⟩ = some (.slice a' kids'.len cap'))
                (D := fun W => W.cell? ⟨O, 5, none⟩ = some (.slice ak S2.length ck) ∧ W.cell? ⟨O, 6, none⟩ = some (.slice ai S2.length ci) ∧ W.frozen? ⟨O, 5, none⟩ = false ∧ W.frozen? ⟨O, 6, none⟩ = false) (st := 15) (by kernel_rfl)
                ⟨HS.out _ (Kept.refl _ _).drew, fun _ => HZ.out _ (Kept.refl _ _).drew⟩ (fun hH => ?_)
              refine wpT_takeC (i := 0) (v := ?_) rfl (by kernel_rfl) (by kernel_rfl) (by kernel_rfl) (by kernel_rfl) (by kernel_rfl) (fun _ _ _ h => h) (Or.inl ⟨by rfl, ?_⟩) (by assumption) ?_
              rotate_left 1
              · intro W hSw
                (try dsimp only at hSw)
                go_simp
                (try with_reducible rfl)
              (try simp only [Act.put, List.setIfInBounds_toArray])
              refine wpT_takeD (i := 1) (v := ?_) rfl (by kernel_rfl) (by kernel_rfl) (by kernel_rfl) (by kernel_rfl) (by kernel_rfl) (fun _ _ _ h => h) (Or.inl ⟨by rfl, ?_⟩) (by assumption) ?_
              rotate_left 1
              · intro W hSw
                (try dsimp only at hSw)
                go_simp
                (try with_reducible rfl)
              (try simp only [Act.put])
              refine wpT_takeC (i := 2) (v := ?_) rfl (by kernel_rfl) (by kernel_rfl) (by kernel_rfl) (by kernel_rfl) (by kernel_rfl) (fun _ _ _ h => h) (Or.inl ⟨by rfl, ?_⟩) (by assumption) ?_
              rotate_left 1
              · intro W hSw
                (try dsimp only at hSw)
                go_simp
                (try with_reducible rfl)
              (try simp only [Act.put])
              refine wpT_takeC (i := 5) (v := ?_) rfl (by kernel_rfl) (by kernel_rfl) (by kernel_rfl) (by kernel_rfl) (by kernel_rfl) (fun _ _ _ h => h) (Or.inl ⟨by rfl, ?_⟩) (by assumption) ?_
              rotate_left 1
              · intro W hSw
                (try dsimp only at hSw)
                go_simp
                (try with_reducible rfl)
              (try simp only [Act.put])
              refine wpT_takeD (i := 6) (v := ?_) rfl (by kernel_rfl) (by kernel_rfl) (by kernel_rfl) (by kernel_rfl) (by kernel_rfl) (fun _ _ _ h => h) (Or.inl ⟨by rfl, ?_⟩) (by assumption) ?_
              rotate_left 1
              · intro W hSw
                (try dsimp only at hSw)
                go_simp
                (try with_reducible rfl)
              (try simp only [Act.put])
              refine wpT_takeC (i := 7) (v := ?_) rfl (by kernel_rfl) (by kernel_rfl) (by kernel_rfl) (by kernel_rfl) (by kernel_rfl) (fun _ _ _ h => h) (Or.inl ⟨by rfl, ?_⟩) (by assumption) ?_
              rotate_left 1
              · intro W hSw
                (try dsimp only at hSw)
                go_simp
                (try with_reducible rfl)
              (try simp only [Act.put])
              refine wpT_takeC (i := 8) (v := ?_) rfl (by kernel_rfl) (by kernel_rfl) (by kernel_rfl) (by kernel_rfl) (by kernel_rfl) (fun _ _ _ h => h) (Or.inl ⟨by rfl, ?_⟩) (by assumption) ?_
              rotate_left 1
              · intro W hSw
                (try dsimp only at hSw)
                go_simp
                (try with_reducible rfl)
              (try simp only [Act.put])
              refine wpT_takeC (i := 9) (v := ?_) rfl (by kernel_rfl) (by kernel_rfl) (by kernel_rfl) (by kernel_rfl) (by kernel_rfl) (fun _ _ _ h => h) (Or.inl ⟨by rfl, ?_⟩) (by assumption) ?_
              rotate_left 1
              · intro W hSw
                (try dsimp only at hSw)
                go_simp
                (try with_reducible rfl)
              (try simp only [Act.put])
              refine wpT_takeC (i := 10) (v := ?_) rfl (by kernel_rfl) (by kernel_rfl) (by kernel_rfl) (by kernel_rfl) (by kernel_rfl) (fun _ _ _ h => h) (Or.inl ⟨by rfl, ?_⟩) (by assumption) ?_
              rotate_left 1
              · intro W hSw
                (try dsimp only at hSw)
                go_simp
                (try with_reducible rfl)
              (try simp only [Act.put])
              refine wpT_takeC (i := 11) (v := ?_) rfl (by kernel_rfl) (by kernel_rfl) (by kernel_rfl) (by kernel_rfl) (by kernel_rfl) (fun _ _ _ h => h) (Or.inl ⟨by rfl, ?_⟩) (by assumption) ?_
              rotate_left 1
              · intro W hSw
                (try dsimp only at hSw)
                go_simp
                (try with_reducible rfl)
              (try simp only [Act.put])
              refine wpT_ready (rs := [3, 12]) (by kernel_rfl) (by simp) ?_
              refine AllT.cons rfl (fun K hK => ?_) (AllT.cons rfl (fun K hK => ?_) AllT.nil)
              · skip
                clear hH
                go_simp
                refine hK.out _ _ ⟨HS.out _ (HSM.out _ (by repeat (first | with_reducible exact hst.keep | with_reducible exact Kept.refl _ _ | with_reducible refine Kept.drew ?_ | with_reducible refine Kept.alloc ?_ _))), fun _ => HZ.out _ (by repeat (first | with_reducible exact hst.keep | with_reducible exact Kept.refl _ _ | with_reducible refine Kept.drew ?_ | with_reducible refine Kept.alloc ?_ _))⟩ (fun hH => ?_)
                clear hK K
                (try simp only [Act.put, List.setIfInBounds_toArray, List.set_cons_zero, List.set_cons_succ])
                refine wpT_ready (rs := [4, 12]) (by kernel_rfl) (by simp) ?_
                refine AllT.cons rfl (fun K hK => ?_) (AllT.cons rfl (fun K hK => ?_) AllT.nil)
                · skip
                  clear hH
                  apply stepK
                  (case hgd => rfl)
                  (case ho => rfl)
                  (case hR => (repeat (first | with_reducible exact hst | with_reducible apply Rg.drew | apply Rg.allocK | apply Rg.allocI)))
                  (case hs => (rw [HVK.out]; rfl))
                  (case hx => rfl)
                  (case hb => simp)
                  (case h1 => rfl)
                  (case hn => omega)
                  all_goals skip
                  intro g1 cap1 w9 hst
                  refine hK.out _ _ ⟨HS.out _ (HSM.out _ (by repeat (first | with_reducible exact hst.keep | with_reducible exact Kept.refl _ _ | with_reducible refine Kept.drew ?_ | with_reducible refine Kept.alloc ?_ _))), fun _ => HZ.out _ (by repeat (first | with_reducible exact hst.keep | with_reducible exact Kept.refl _ _ | with_reducible refine Kept.drew ?_ | with_reducible refine Kept.alloc ?_ _))⟩ (fun hH => ?_)
                  clear hK K
                  (try simp only [Act.put, List.setIfInBounds_toArray])
                  refine wpT_takeC (i := 14) (v := ?_) rfl (by kernel_rfl) (by kernel_rfl) (by kernel_rfl) (by kernel_rfl) (by kernel_rfl) (fun _ _ _ h => h) (Or.inl ⟨by rfl, ?_⟩) (by assumption) ?_
                  rotate_left 1
                  · intro W hSw
                    (try dsimp only at hSw)
                    go_simp
                    (try with_reducible rfl)
                  (try simp only [Act.put])
                  refine wpT_ready (rs := [12]) (by kernel_rfl) (by simp) ?_
                  refine AllT.cons rfl (fun K hK => ?_) AllT.nil
                  clear hH
                  go_simp
                  refine hK.out _ _ ⟨HS.out _ (HSM.out _ (by repeat (first | with_reducible exact hst.keep | with_reducible exact Kept.refl _ _ | with_reducible refine Kept.drew ?_ | with_reducible refine Kept.alloc ?_ _))), fun _ => HZ.out _ (by repeat (first | with_reducible exact hst.keep | with_reducible exact Kept.refl _ _ | with_reducible refine Kept.drew ?_ | with_reducible refine Kept.alloc ?_ _))⟩ (fun hH => ?_)
                  clear hK K
                  (try simp only [Act.put, List.setIfInBounds_toArray, List.set_cons_zero, List.set_cons_succ])
                  refine wpT_ready (rs := [13]) (by kernel_rfl) (by simp) ?_
                  refine AllT.cons rfl (fun K hK => ?_) AllT.nil
                  clear hH
                  apply stepI
                  (case hgd => rfl)
                  (case ho => rfl)
                  (case hR => (repeat (first | with_reducible exact hst | with_reducible apply Rg.drew | apply Rg.allocK | apply Rg.allocI)))
                  (case hs => (rw [HVI.out]; rfl))
                  (case hx => rfl)
                  (case hb => simp)
                  (case hl => rfl)
                  (case h1 => simp [Value.oneCell'])
                  (case hn => omega)
                  all_goals skip
                  intro g2 cap2 w9 hst
                  obtain ⟨z5, z6, z7, z8⟩ := HZ.out _ hst.keep
                  refine hK.out _ _ ⟨HS.out _ (HSM.out _ (by repeat (first | with_reducible exact hst.keep | with_reducible exact Kept.refl _ _ | with_reducible refine Kept.drew ?_ | with_reducible refine Kept.alloc ?_ _))), fun _ => HZ.out _ (by repeat (first | with_reducible exact hst.keep | with_reducible exact Kept.refl _ _ | with_reducible refine Kept.drew ?_ | with_reducible refine Kept.alloc ?_ _))⟩ (fun hH => ?_)
                  clear hK K
                  (try simp only [Act.put, List.setIfInBounds_toArray])
                  refine wpT_ready (rs := [15]) (by kernel_rfl) (by simp) ?_
                  refine AllT.cons rfl (fun K hK => ?_) AllT.nil
                  clear hH
                  go_simp
                  refine hK.out _ _ ⟨HS.out _ (by repeat (first | with_reducible exact HSM.out _ hst.keep | with_reducible refine Kept.drew ?_ | with_reducible refine Kept.alloc ?_ _ | refine Kept.setCell ?_ (Or.inr (by simp)) _)), fun h => absurd h (by decide)⟩ (fun hH => ?_)
                  clear hK K
                  (try simp only [Act.put, List.setIfInBounds_toArray, List.set_cons_zero, List.set_cons_succ])
                  refine wpT_takeC (i := 16) (v := ?_) rfl (by kernel_rfl) (by kernel_rfl) (by kernel_rfl) (by kernel_rfl) (by kernel_rfl) (fun _ _ _ h => h) (Or.inl ⟨by rfl, ?_⟩) (by assumption) ?_
                  rotate_left 1
                  · intro W hSw
                    (try dsimp only at hSw)
                    go_simp
                    (try with_reducible rfl)
                  (try simp only [Act.put, List.setIfInBounds_toArray])
                  refine wpT_ready (rs := [17]) (by kernel_rfl) (by simp) ?_
                  refine AllT.cons rfl (fun K hK => ?_) AllT.nil
                  clear hH
                  go_simp
                  refine hK.out _ _ ⟨HS.out _ (by repeat (first | with_reducible exact HSM.out _ hst.keep | with_reducible refine Kept.drew ?_ | with_reducible refine Kept.alloc ?_ _ | refine Kept.setCell ?_ (Or.inr (by simp)) _)), fun h => absurd h (by decide)⟩ (fun hH => ?_)
                  clear hK K
                  (try simp only [Act.put, List.setIfInBounds_toArray, List.set_cons_zero, List.set_cons_succ])
                  refine wpT_done (by kernel_rfl) ?_ _
                  refine NoPanic.normal ?_
                  have hput := put_round (y := (⟨k', i', g', r', s', keys', kids'⟩ : Nd)) hst rfl HB.out HOO.out.symm hNO hK2 HOW.out HFL.out (HND.out.kept hK2 (ltkB (Nat.le_trans hN hK0.size) (by simp))) hsz HSZ.out
                  rw [← HPJ.out] at hput
                  have HPU := Lib.hid hput; clear hput hst
                  go_wp2_with fail
                  exact ⟨⟨j + 1, S2 ++ [L[j]], _, _, _, by go_num, rfl, by omega, HPU.out.1, HPU.out.2.1, HPU.out.2.2, by rw [take_more hlt, HS2.out]; exact HQ.out⟩, by simp [intOf]; omega⟩
                · skip
                  clear hH
                  go_simp
                  refine hK.out _ _ ⟨HS.out _ (HSM.out _ (by repeat (first | with_reducible exact hst.keep | with_reducible exact Kept.refl _ _ | with_reducible refine Kept.drew ?_ | with_reducible refine Kept.alloc ?_ _))), fun _ => HZ.out _ (by repeat (first | with_reducible exact hst.keep | with_reducible exact Kept.refl _ _ | with_reducible refine Kept.drew ?_ | with_reducible refine Kept.alloc ?_ _))⟩ (fun hH => ?_)
                  clear hK K
                  (try simp only [Act.put, List.setIfInBounds_toArray, List.set_cons_zero, List.set_cons_succ])
                  refine wpT_ready (rs := [4]) (by kernel_rfl) (by simp) ?_
                  refine AllT.cons rfl (fun K hK => ?_) AllT.nil
                  clear hH
                  apply stepK
                  (case hgd => rfl)
                  (case ho => rfl)
                  (case hR => (repeat (first | with_reducible exact hst | with_reducible apply Rg.drew | apply Rg.allocK | apply Rg.allocI)))
                  (case hs => (rw [HVK.out]; rfl))
                  (case hx => rfl)
                  (case hb => simp)
                  (case h1 => rfl)
                  (case hn => omega)
                  all_goals skip
                  intro g1 cap1 w9 hst
                  refine hK.out _ _ ⟨HS.out _ (HSM.out _ (by repeat (first | with_reducible exact hst.keep | with_reducible exact Kept.refl _ _ | with_reducible refine Kept.drew ?_ | with_reducible refine Kept.alloc ?_ _))), fun _ => HZ.out _ (by repeat (first | with_reducible exact hst.keep | with_reducible exact Kept.refl _ _ | with_reducible refine Kept.drew ?_ | with_reducible refine Kept.alloc ?_ _))⟩ (fun hH => ?_)
                  clear hK K
                  (try simp only [Act.put, List.setIfInBounds_toArray])
                  refine wpT_takeC (i := 14) (v := ?_) rfl (by kernel_rfl) (by kernel_rfl) (by kernel_rfl) (by kernel_rfl) (by kernel_rfl) (fun _ _ _ h => h) (Or.inl ⟨by rfl, ?_⟩) (by assumption) ?_
                  rotate_left 1
                  · intro W hSw
                    (try dsimp only at hSw)
                    go_simp
                    (try with_reducible rfl)
                  (try simp only [Act.put])
                  refine wpT_ready (rs := [13]) (by kernel_rfl) (by simp) ?_
                  refine AllT.cons rfl (fun K hK => ?_) AllT.nil
                  clear hH
                  apply stepI
                  (case hgd => rfl)
                  (case ho => rfl)
                  (case hR => (repeat (first | with_reducible exact hst | with_reducible apply Rg.drew | apply Rg.allocK | apply Rg.allocI)))
                  (case hs => (rw [HVI.out]; rfl))
                  (case hx => rfl)
                  (case hb => simp)
                  (case hl => rfl)
                  (case h1 => simp [Value.oneCell'])
                  (case hn => omega)
                  all_goals skip
                  intro g2 cap2 w9 hst
                  obtain ⟨z5, z6, z7, z8⟩ := HZ.out _ hst.keep
                  refine hK.out _ _ ⟨HS.out _ (HSM.out _ (by repeat (first | with_reducible exact hst.keep | with_reducible exact Kept.refl _ _ | with_reducible refine Kept.drew ?_ | with_reducible refine Kept.alloc ?_ _))), fun _ => HZ.out _ (by repeat (first | with_reducible exact hst.keep | with_reducible exact Kept.refl _ _ | with_reducible refine Kept.drew ?_ | with_reducible refine Kept.alloc ?_ _))⟩ (fun hH => ?_)
                  clear hK K
                  (try simp only [Act.put])
                  refine wpT_ready (rs := [15]) (by kernel_rfl) (by simp) ?_
                  refine AllT.cons rfl (fun K hK => ?_) AllT.nil
                  clear hH
                  go_simp
                  refine hK.out _ _ ⟨HS.out _ (by repeat (first | with_reducible exact HSM.out _ hst.keep | with_reducible refine Kept.drew ?_ | with_reducible refine Kept.alloc ?_ _ | refine Kept.setCell ?_ (Or.inr (by simp)) _)), fun h => absurd h (by decide)⟩ (fun hH => ?_)
                  clear hK K
                  (try simp only [Act.put, List.setIfInBounds_toArray, List.set_cons_zero, List.set_cons_succ])
                  refine wpT_takeC (i := 16) (v := ?_) rfl (by kernel_rfl) (by kernel_rfl) (by kernel_rfl) (by kernel_rfl) (by kernel_rfl) (fun _ _ _ h => h) (Or.inl ⟨by rfl, ?_⟩) (by assumption) ?_
                  rotate_left 1
                  · intro W hSw
                    (try dsimp only at hSw)
                    go_simp
                    (try with_reducible rfl)
                  (try simp only [Act.put, List.setIfInBounds_toArray])
                  refine wpT_ready (rs := [17]) (by kernel_rfl) (by simp) ?_
                  refine AllT.cons rfl (fun K hK => ?_) AllT.nil
                  clear hH
                  go_simp
                  refine hK.out _ _ ⟨HS.out _ (by repeat (first | with_reducible exact HSM.out _ hst.keep | with_reducible refine Kept.drew ?_ | with_reducible refine Kept.alloc ?_ _ | refine Kept.setCell ?_ (Or.inr (by simp)) _)), fun h => absurd h (by decide)⟩ (fun hH => ?_)
                  clear hK K
                  (try simp only [Act.put, List.setIfInBounds_toArray, List.set_cons_zero, List.set_cons_succ])
                  refine wpT_done (by kernel_rfl) ?_ _
                  refine NoPanic.normal ?_
                  have hput := put_round (y := (⟨k', i', g', r', s', keys', kids'⟩ : Nd)) hst rfl HB.out HOO.out.symm hNO hK2 HOW.out HFL.out (HND.out.kept hK2 (ltkB (Nat.le_trans hN hK0.size) (by simp))) hsz HSZ.out
                  rw [← HPJ.out] at hput
                  have HPU := Lib.hid hput; clear hput hst
                  go_wp2_with fail
                  exact ⟨⟨j + 1, S2 ++ [L[j]], _, _, _, by go_num, rfl, by omega, HPU.out.1, HPU.out.2.1, HPU.out.2.2, by rw [take_more hlt, HS2.out]; exact HQ.out⟩, by simp [intOf]; omega⟩
              · skip
                clear hH
                go_simp
                refine hK.out _ _ ⟨HS.out _ (HSM.out _ (by repeat (first | with_reducible exact hst.keep | with_reducible exact Kept.refl _ _ | with_reducible refine Kept.drew ?_ | with_reducible refine Kept.alloc ?_ _))), fun _ => HZ.out _ (by repeat (first | with_reducible exact hst.keep | with_reducible exact Kept.refl _ _ | with_reducible refine Kept.drew ?_ | with_reducible refine Kept.alloc ?_ _))⟩ (fun hH => ?_)
                clear hK K
                (try simp only [Act.put, List.setIfInBounds_toArray, List.set_cons_zero, List.set_cons_succ])
                refine wpT_ready (rs := [3]) (by kernel_rfl) (by simp) ?_
                refine AllT.cons rfl (fun K hK => ?_) AllT.nil
                clear hH
                go_simp
                refine hK.out _ _ ⟨HS.out _ (HSM.out _ (by repeat (first | with_reducible exact hst.keep | with_reducible exact Kept.refl _ _ | with_reducible refine Kept.drew ?_ | with_reducible refine Kept.alloc ?_ _))), fun _ => HZ.out _ (by repeat (first | with_reducible exact hst.keep | with_reducible exact Kept.refl _ _ | with_reducible refine Kept.drew ?_ | with_reducible refine Kept.alloc ?_ _))⟩ (fun hH => ?_)
                clear hK K
                (try simp only [Act.put, List.setIfInBounds_toArray, List.set_cons_zero, List.set_cons_succ])
                refine wpT_ready (rs := [4]) (by kernel_rfl) (by simp) ?_
                refine AllT.cons rfl (fun K hK => ?_) AllT.nil
                clear hH
                apply stepK
                (case hgd => rfl)
                (case ho => rfl)
                (case hR => (repeat (first | with_reducible exact hst | with_reducible apply Rg.drew | apply Rg.allocK | apply Rg.allocI)))
                (case hs => (rw [HVK.out]; rfl))
                (case hx => rfl)
                (case hb => simp)
                (case h1 => rfl)
                (case hn => omega)
                all_goals skip
                intro g1 cap1 w9 hst
                refine hK.out _ _ ⟨HS.out _ (HSM.out _ (by repeat (first | with_reducible exact hst.keep | with_reducible exact Kept.refl _ _ | with_reducible refine Kept.drew ?_ | with_reducible refine Kept.alloc ?_ _))), fun _ => HZ.out _ (by repeat (first | with_reducible exact hst.keep | with_reducible exact Kept.refl _ _ | with_reducible refine Kept.drew ?_ | with_reducible refine Kept.alloc ?_ _))⟩ (fun hH => ?_)
                clear hK K
                (try simp only [Act.put, List.setIfInBounds_toArray])
                refine wpT_takeC (i := 14) (v := ?_) rfl (by kernel_rfl) (by kernel_rfl) (by kernel_rfl) (by kernel_rfl) (by kernel_rfl) (fun _ _ _ h => h) (Or.inl ⟨by rfl, ?_⟩) (by assumption) ?_
                rotate_left 1
                · intro W hSw
                  (try dsimp only at hSw)
                  go_simp
                  (try with_reducible rfl)
                (try simp only [Act.put])
                refine wpT_ready (rs := [13]) (by kernel_rfl) (by simp) ?_
                refine AllT.cons rfl (fun K hK => ?_) AllT.nil
                clear hH
                apply stepI
                (case hgd => rfl)
                (case ho => rfl)
                (case hR => (repeat (first | with_reducible exact hst | with_reducible apply Rg.drew | apply Rg.allocK | apply Rg.allocI)))
                (case hs => (rw [HVI.out]; rfl))
                (case hx => rfl)
                (case hb => simp)
                (case hl => rfl)
                (case h1 => simp [Value.oneCell'])
                (case hn => omega)
                all_goals skip
                intro g2 cap2 w9 hst
                obtain ⟨z5, z6, z7, z8⟩ := HZ.out _ hst.keep
                refine hK.out _ _ ⟨HS.out _ (HSM.out _ (by repeat (first | with_reducible exact hst.keep | with_reducible exact Kept.refl _ _ | with_reducible refine Kept.drew ?_ | with_reducible refine Kept.alloc ?_ _))), fun _ => HZ.out _ (by repeat (first | with_reducible exact hst.keep | with_reducible exact Kept.refl _ _ | with_reducible refine Kept.drew ?_ | with_reducible refine Kept.alloc ?_ _))⟩ (fun hH => ?_)
                clear hK K
                (try simp only [Act.put])
                refine wpT_ready (rs := [15]) (by kernel_rfl) (by simp) ?_
                refine AllT.cons rfl (fun K hK => ?_) AllT.nil
                clear hH
                go_simp
                refine hK.out _ _ ⟨HS.out _ (by repeat (first | with_reducible exact HSM.out _ hst.keep | with_reducible refine Kept.drew ?_ | with_reducible refine Kept.alloc ?_ _ | refine Kept.setCell ?_ (Or.inr (by simp)) _)), fun h => absurd h (by decide)⟩ (fun hH => ?_)
                clear hK K
                (try simp only [Act.put, List.setIfInBounds_toArray, List.set_cons_zero, List.set_cons_succ])
                refine wpT_takeC (i := 16) (v := ?_) rfl (by kernel_rfl) (by kernel_rfl) (by kernel_rfl) (by kernel_rfl) (by kernel_rfl) (fun _ _ _ h => h) (Or.inl ⟨by rfl, ?_⟩) (by assumption) ?_
                rotate_left 1
                · intro W hSw
                  (try dsimp only at hSw)
                  go_simp
                  (try with_reducible rfl)
                (try simp only [Act.put, List.setIfInBounds_toArray])
                refine wpT_ready (rs := [17]) (by kernel_rfl) (by simp) ?_
                refine AllT.cons rfl (fun K hK => ?_) AllT.nil
                clear hH
                go_simp
                refine hK.out _ _ ⟨HS.out _ (by repeat (first | with_reducible exact HSM.out _ hst.keep | with_reducible refine Kept.drew ?_ | with_reducible refine Kept.alloc ?_ _ | refine Kept.setCell ?_ (Or.inr (by simp)) _)), fun h => absurd h (by decide)⟩ (fun hH => ?_)
                clear hK K
                (try simp only [Act.put, List.setIfInBounds_toArray, List.set_cons_zero, List.set_cons_succ])
                refine wpT_done (by kernel_rfl) ?_ _
                refine NoPanic.normal ?_
                have hput := put_round (y := (⟨k', i', g', r', s', keys', kids'⟩ : Nd)) hst rfl HB.out HOO.out.symm hNO hK2 HOW.out HFL.out (HND.out.kept hK2 (ltkB (Nat.le_trans hN hK0.size) (by simp))) hsz HSZ.out
                rw [← HPJ.out] at hput
                have HPU := Lib.hid hput; clear hput hst
                go_wp2_with fail
                exact ⟨⟨j + 1, S2 ++ [L[j]], _, _, _, by go_num, rfl, by omega, HPU.out.1, HPU.out.2.1, HPU.out.2.2, by rw [take_more hlt, HS2.out]; exact HQ.out⟩, by simp [intOf]; omega⟩
          · skip
            clear hH
            go_simp
            refine hK.out _ _ ⟨HS.out _ (HSM.out _ (by repeat (first | with_reducible exact hst.keep | with_reducible exact Kept.refl _ _ | with_reducible refine Kept.drew ?_ | with_reducible refine Kept.alloc ?_ _))), fun _ => HZ.out _ (by repeat (first | with_reducible exact hst.keep | with_reducible exact Kept.refl _ _ | with_reducible refine Kept.drew ?_ | with_reducible refine Kept.alloc ?_ _))⟩ (fun hH => ?_)
            clear hK K
            (try simp only [Act.put, List.setIfInBounds_toArray, List.set_cons_zero, List.set_cons_succ])
            refine wpT_ready (rs := [3]) (by kernel_rfl) (by simp) ?_
            refine AllT.cons rfl (fun K hK => ?_) AllT.nil
            clear hH
            go_simp
            refine hK.out _ _ ⟨HS.out _ (HSM.out _ (by repeat (first | with_reducible exact hst.keep | with_reducible exact Kept.refl _ _ | with_reducible refine Kept.drew ?_ | with_reducible refine Kept.alloc ?_ _))), fun _ => HZ.out _ (by repeat (first | with_reducible exact hst.keep | with_reducible exact Kept.refl _ _ | with_reducible refine Kept.drew ?_ | with_reducible refine Kept.alloc ?_ _))⟩ (fun hH => ?_)
            clear hK K
            (try simp only [Act.put, List.setIfInBounds_toArray, List.set_cons_zero, List.set_cons_succ])
            refine wpT_ready (rs := [4]) (by kernel_rfl) (by simp) ?_
            refine AllT.cons rfl (fun K hK => ?_) AllT.nil
            clear hH
            apply stepK
            (case hgd => rfl)
            (case ho => rfl)
            (case hR => (repeat (first | with_reducible exact hst | with_reducible apply Rg.drew | apply Rg.allocK | apply Rg.allocI)))
            (case hs => (rw [HVK.out]; rfl))
            (case hx => rfl)
            (case hb => simp)
            (case h1 => rfl)
            (case hn => omega)
            all_goals skip
            intro g1 cap1 w9 hst
            refine hK.out _ _ ⟨HS.out _ (HSM.out _ (by repeat (first | with_reducible exact hst.keep | with_reducible exact Kept.refl _ _ | with_reducible refine Kept.drew ?_ | with_reducible refine Kept.alloc ?_ _))), fun _ => HZ.out _ (by repeat (first | with_reducible exact hst.keep | with_reducible exact Kept.refl _ _ | with_reducible refine Kept.drew ?_ | with_reducible refine Kept.alloc ?_ _))⟩ (fun hH => ?_)
            clear hK K
            (try simp only [Act.put, List.setIfInBounds_toArray])
            refine wpT_takeC (i := 10) (v := ?_) rfl (by kernel_rfl) (by kernel_rfl) (by kernel_rfl) (by kernel_rfl) (by kernel_rfl) (fun _ _ _ h => h) (Or.inl ⟨by rfl, ?_⟩) (by assumption) ?_
            rotate_left 1
            · intro W hSw
              (try dsimp only at hSw)
              go_simp
              (try with_reducible rfl)
            (try simp only [Act.put])
            refine wpT_ready (rs := [9]) (by kernel_rfl) (by simp) ?_
            refine AllT.cons rfl (fun K hK => ?_) AllT.nil
            clear hH
            apply stepI
            (case hgd => rfl)
            (case ho => rfl)
            (case hR => (repeat (first | with_reducible exact hst | with_reducible apply Rg.drew | apply Rg.allocK | apply Rg.allocI)))
            (case hs => (rw [HVI.out]; rfl))
            (case hx => rfl)
            (case hb => simp)
            (case hl => rfl)
            (case h1 => simp [Value.oneCell'])
            (case hn => omega)
            all_goals skip
            intro g2 cap2 w9 hst
            obtain ⟨z5, z6, z7, z8⟩ := HZ.out _ hst.keep
            refine hK.out _ _ ⟨HS.out _ (HSM.out _ (by repeat (first | with_reducible exact hst.keep | with_reducible exact Kept.refl _ _ | with_reducible refine Kept.drew ?_ | with_reducible refine Kept.alloc ?_ _))), fun _ => HZ.out _ (by repeat (first | with_reducible exact hst.keep | with_reducible exact Kept.refl _ _ | with_reducible refine Kept.drew ?_ | with_reducible refine Kept.alloc ?_ _))⟩ (fun hH => ?_)
            clear hK K
            (try simp only [Act.put])
            refine wpT_ready (rs := [11]) (by kernel_rfl) (by simp) ?_
            refine AllT.cons rfl (fun K hK => ?_) AllT.nil
            clear hH
            go_simp
            refine hK.out _ _ ⟨HS.out _ (by repeat (first | with_reducible exact HSM.out _ hst.keep | with_reducible refine Kept.drew ?_ | with_reducible refine Kept.alloc ?_ _ | refine Kept.setCell ?_ (Or.inr (by simp)) _)), fun h => absurd h (by decide)⟩ (fun hH => ?_)
            clear hK K
            (try simp only [Act.put, List.setIfInBounds_toArray, List.set_cons_zero, List.set_cons_succ])
            refine wpT_takeC (i := 12) (v := ?_) rfl (by kernel_rfl) (by kernel_rfl) (by kernel_rfl) (by kernel_rfl) (by kernel_rfl) (fun _ _ _ h => h) (Or.inl ⟨by rfl, ?_⟩) (by assumption) ?_
            rotate_left 1
            · intro W hSw
              (try dsimp only at hSw)
              go_simp
              (try with_reducible rfl)
            (try simp only [Act.put, List.setIfInBounds_toArray])
            refine wpT_ready (rs := [13]) (by kernel_rfl) (by simp) ?_
            refine AllT.cons rfl (fun K hK => ?_) AllT.nil
            clear hH
            go_simp
            refine hK.out _ _ ⟨HS.out _ (by repeat (first | with_reducible exact HSM.out _ hst.keep | with_reducible refine Kept.drew ?_ | with_reducible refine Kept.alloc ?_ _ | refine Kept.setCell ?_ (Or.inr (by simp)) _)), fun h => absurd h (by decide)⟩ (fun hH => ?_)
            clear hK K
            (try simp only [Act.put, List.setIfInBounds_toArray, List.set_cons_zero, List.set_cons_succ])
            refine wpT_done (by kernel_rfl) ?_ _
            refine NoPanic.normal ?_
            have hput := put_round (y := y) hst rfl HB.out HOO.out.symm hNO hK HOW.out HFL.out (HY.out.kept hK (ltkB (Nat.le_trans hN hK0.size) (by simp))) HKZ.out HSZ.out
            obtain ⟨W2, hW2⟩ : ∃ W2, W2 = (w9.setCell ⟨O, 5, none⟩ (.slice (some ⟨g1, 0, none⟩) (S.length + 1) cap1)).setCell ⟨O, 6, none⟩ (.slice (some ⟨g2, 0, none⟩) (S.length + 1) cap2) := ⟨_, rfl⟩
            obtain ⟨vk2, hvk2⟩ : ∃ v, v = Value.slice (some ⟨g1, 0, none⟩) (S.length + 1) cap1 := ⟨_, rfl⟩
            obtain ⟨vi2, hvi2⟩ : ∃ v, v = Value.slice (some ⟨g2, 0, none⟩) (S.length + 1) cap2 := ⟨_, rfl⟩
            obtain ⟨S2, hS2⟩ : ∃ S2, S2 = S ++ [(key, y)] := ⟨_, rfl⟩
            have hsl2 : S2.length ≤ L.length + 2 := by rw [hS2, List.length_append, List.length_singleton]; omega
            rw [← hW2, ← hvk2, ← hvi2, ← hS2] at hput
            obtain ⟨hK2, hOb2, hout2⟩ := hput
            rw [← hW2]
            have HOb2 := Lib.hid hOb2; have HOut2 := Lib.hid hout2; have HS2 := Lib.hid hS2
            clear hW2 hvk2 hvi2 hS2 hOb2 hout2 hst z5 z6 z7 z8
            go_wp2_with fail
            have hOb2 := HOb2.out; have hout2 := HOut2.out
            obtain ⟨hkr, ⟨cs, hir, hfl⟩, hne, hszS⟩ := hout2
            obtain ⟨ak, ck, hvk⟩ := own_form hkr
            obtain ⟨ai, ci, hvi⟩ := own_form hir
            have hown : ∀ b, vk2.ownBlock = some b ∨ vi2.ownBlock = some b → O + 1 ≤ b := fun b hb => by
              rcases hb with hb | hb
              · exact (ownsRow_lt hkr hb).2
              · exact (ownsRow_lt hir hb).2
            have hOl := lt_of_block hOb2
            have hZ : ∀ W, Kept (vk2.ownBlock.toList ++ vi2.ownBlock.toList) W2 W → W.cell? ⟨O, 5, none⟩ = some (.slice ak S2.length ck) ∧ W.cell? ⟨O, 6, none⟩ = some (.slice ai S2.length ci) ∧ W.frozen? ⟨O, 5, none⟩ = false ∧ W.frozen? ⟨O, 6, none⟩ = false := fun W hW => by
              have hb := hW.block O hOl (fun hm => by have := hown O (by simpa using hm); omega)
              obtain ⟨⟨_, _, _, _, _, y5, y6⟩, _, _, _, _, _, q5, q6⟩ := seven hOb2
              rw [hvk] at y5
              rw [hvi] at y6
              exact ⟨(World.cell?_of_block hb).trans y5, (World.cell?_of_block hb).trans y6, (World.frozen?_of_block hb).trans q5, (World.frozen?_of_block hb).trans q6⟩
            have hSM : ∀ W, Kept (vk2.ownBlock.toList ++ vi2.ownBlock.toList) W2 W → Kept (O :: (vk2.ownBlock.toList ++ vi2.ownBlock.toList)) W2 W := fun W h => h.mono fun x hx _ => List.mem_cons_of_mem _ hx
            have hE : ∀ W, Kept (O :: (vk2.ownBlock.toList ++ vi2.ownBlock.toList)) W2 W → ∀ b p, b < O → W.cell? ⟨b, p, none⟩ = w0.cell? ⟨b, p, none⟩ := fun W hW b p hb => by
              have hin : ∀ x ∈ O :: (vk2.ownBlock.toList ++ vi2.ownBlock.toList), O ≤ x := fun x hx => by
                rcases List.mem_cons.1 hx with h | h
                · omega
                · have := hown x (by simpa using h); omega
              exact (hW.cell (by omega) fun hm => by have := hin _ hm; omega).trans (hK2.cell (by have := HOO.out; omega) (by simp))
            have HSM := Lib.hid hSM; have HZ := Lib.hid hZ; have HE := Lib.hid hE; have HOW := Lib.hid hown; have HSZ := Lib.hid hszS; have HFL := Lib.hid hfl; have HB := Lib.hid hOb2
            have HVK := Lib.hid hvk; have HVI := Lib.hid hvi; clear hvk hvi hSM hZ hE hown hszS hfl
            have hst := Rg.start (.string (L[j]).1) [.int .i64 k', .int .i64 i', .int .i64 g', .float .f64 r', .string s', .slice ka' keys'.length kc', .slice a' kids'.len cap'] hkr hir hne (by omega : O + 1 ≤ W2.heap.size)
            have hS : ∀ W, Kept (O :: (vk2.ownBlock.toList ++ vi2.ownBlock.toList)) W2 W → (W.cell? ⟨w.heap.size, 6, none⟩ = some (.slice (some ⟨b', o', none⟩) L.length cap) ∧
                W.cell? ⟨b', o' + j * 7, none⟩ = some (.int .i64 k') ∧ W.cell? ⟨b', o' + j * 7 + 1, none⟩ = some (.int .i64 i') ∧ W.cell? ⟨b', o' + j * 7 + 2, none⟩ = some (.int .i64 g') ∧ W.cell? ⟨b', o' + j * 7 + 3, none⟩ = some (.float .f64 r') ∧
                W.cell? ⟨b', o' + j * 7 + 4, none⟩ = some (.string s') ∧ W.cell? ⟨b', o' + j * 7 + 5, none⟩ = some (.slice ka' keys'.length kc') ∧ W.cell? ⟨b', o' + j * 7 + 6, none⟩ = some (.slice a' kids'.len cap')) := fun W hW => by
              have e := HE.out W hW
              obtain ⟨⟨_, _, _, _, _, _, x6⟩, _⟩ := seven HX.out
              obtain ⟨d0, d1, d2, d3, d4, d5, d6⟩ := HC7.out
              exact ⟨(e _ _ (by omega)).trans x6, (e _ _ hbO).trans d0, (e _ _ hbO).trans d1, (e _ _ hbO).trans d2, (e _ _ hbO).trans d3, (e _ _ hbO).trans d4, (e _ _ hbO).trans d5, (e _ _ hbO).trans d6⟩
            have HS := Lib.hid hS; clear hS hkr hir hne hOb2
            refine wp_region_noPanic ?_
            refine wp_region_T (C := fun W => W.cell? ⟨w.heap.size, 6, none⟩ = some (.slice (some ⟨b', o', none⟩) L.length cap) ∧
                W.cell? ⟨b', o' + j * 7, none⟩ = some (.int .i64 k') ∧ W.cell? ⟨b', o' + j * 7 + 1, none⟩ = some (.int .i64 i') ∧ W.cell? ⟨b', o' + j * 7 + 2, none⟩ = some (.int .i64 g') ∧ W.cell? ⟨b', o' + j * 7 + 3, none⟩ = some (.float .f64 r') ∧
                W.cell? ⟨b', o' + j * 7 + 4, none⟩ = some (.string s') ∧ W.cell? ⟨b', o' + j * 7 + 5, none⟩ = some (.slice ka' keys'.length kc') ∧ W.cell? ⟨b', o' + j * 7 + 6, none⟩ = some (.slice a' kids'.len cap'))
              (D := fun W => W.cell? ⟨O, 5, none⟩ = some (.slice ak S2.length ck) ∧ W.cell? ⟨O, 6, none⟩ = some (.slice ai S2.length ci) ∧ W.frozen? ⟨O, 5, none⟩ = false ∧ W.frozen? ⟨O, 6, none⟩ = false) (st := 15) (by kernel_rfl)
              ⟨HS.out _ (Kept.refl _ _).drew, fun _ => HZ.out _ (Kept.refl _ _).drew⟩ (fun hH => ?_)
            refine wpT_takeC (i := 0) (v := ?_) rfl (by kernel_rfl) (by kernel_rfl) (by kernel_rfl) (by kernel_rfl) (by kernel_rfl) (fun _ _ _ h => h) (Or.inl ⟨by rfl, ?_⟩) (by assumption) ?_
            rotate_left 1
            · intro W hSw
              (try dsimp only at hSw)
              go_simp
              (try with_reducible rfl)
            (try simp only [Act.put, List.setIfInBounds_toArray])
            refine wpT_takeD (i := 1) (v := ?_) rfl (by kernel_rfl) (by kernel_rfl) (by kernel_rfl) (by kernel_rfl) (by kernel_rfl) (fun _ _ _ h => h) (Or.inl ⟨by rfl, ?_⟩) (by assumption) ?_
            rotate_left 1
            · intro W hSw
              (try dsimp only at hSw)
              go_simp
              (try with_reducible rfl)
            (try simp only [Act.put])
            refine wpT_takeC (i := 2) (v := ?_) rfl (by kernel_rfl) (by kernel_rfl) (by kernel_rfl) (by kernel_rfl) (by kernel_rfl) (fun _ _ _ h => h) (Or.inl ⟨by rfl, ?_⟩) (by assumption) ?_
            rotate_left 1
            · intro W hSw
              (try dsimp only at hSw)
              go_simp
              (try with_reducible rfl)
            (try simp only [Act.put])
            refine wpT_takeC (i := 5) (v := ?_) rfl (by kernel_rfl) (by kernel_rfl) (by kernel_rfl) (by kernel_rfl) (by kernel_rfl) (fun _ _ _ h => h) (Or.inl ⟨by rfl, ?_⟩) (by assumption) ?_
            rotate_left 1
            · intro W hSw
              (try dsimp only at hSw)
              go_simp
              (try with_reducible rfl)
            (try simp only [Act.put])
            refine wpT_takeD (i := 6) (v := ?_) rfl (by kernel_rfl) (by kernel_rfl) (by kernel_rfl) (by kernel_rfl) (by kernel_rfl) (fun _ _ _ h => h) (Or.inl ⟨by rfl, ?_⟩) (by assumption) ?_
            rotate_left 1
            · intro W hSw
              (try dsimp only at hSw)
              go_simp
              (try with_reducible rfl)
            (try simp only [Act.put])
            refine wpT_takeC (i := 7) (v := ?_) rfl (by kernel_rfl) (by kernel_rfl) (by kernel_rfl) (by kernel_rfl) (by kernel_rfl) (fun _ _ _ h => h) (Or.inl ⟨by rfl, ?_⟩) (by assumption) ?_
            rotate_left 1
            · intro W hSw
              (try dsimp only at hSw)
              go_simp
              (try with_reducible rfl)
            (try simp only [Act.put])
            refine wpT_takeC (i := 8) (v := ?_) rfl (by kernel_rfl) (by kernel_rfl) (by kernel_rfl) (by kernel_rfl) (by kernel_rfl) (fun _ _ _ h => h) (Or.inl ⟨by rfl, ?_⟩) (by assumption) ?_
            rotate_left 1
            · intro W hSw
              (try dsimp only at hSw)
              go_simp
              (try with_reducible rfl)
            (try simp only [Act.put])
            refine wpT_takeC (i := 9) (v := ?_) rfl (by kernel_rfl) (by kernel_rfl) (by kernel_rfl) (by kernel_rfl) (by kernel_rfl) (fun _ _ _ h => h) (Or.inl ⟨by rfl, ?_⟩) (by assumption) ?_
            rotate_left 1
            · intro W hSw
              (try dsimp only at hSw)
              go_simp
              (try with_reducible rfl)
            (try simp only [Act.put])
            refine wpT_takeC (i := 10) (v := ?_) rfl (by kernel_rfl) (by kernel_rfl) (by kernel_rfl) (by kernel_rfl) (by kernel_rfl) (fun _ _ _ h => h) (Or.inl ⟨by rfl, ?_⟩) (by assumption) ?_
            rotate_left 1
            · intro W hSw
              (try dsimp only at hSw)
              go_simp
              (try with_reducible rfl)
            (try simp only [Act.put])
            refine wpT_takeC (i := 11) (v := ?_) rfl (by kernel_rfl) (by kernel_rfl) (by kernel_rfl) (by kernel_rfl) (by kernel_rfl) (fun _ _ _ h => h) (Or.inl ⟨by rfl, ?_⟩) (by assumption) ?_
            rotate_left 1
            · intro W hSw
              (try dsimp only at hSw)
              go_simp
              (try with_reducible rfl)
            (try simp only [Act.put])
            refine wpT_ready (rs := [3, 12]) (by kernel_rfl) (by simp) ?_
            refine AllT.cons rfl (fun K hK => ?_) (AllT.cons rfl (fun K hK => ?_) AllT.nil)
            · skip
              clear hH
              go_simp
              refine hK.out _ _ ⟨HS.out _ (HSM.out _ (by repeat (first | with_reducible exact hst.keep | with_reducible exact Kept.refl _ _ | with_reducible refine Kept.drew ?_ | with_reducible refine Kept.alloc ?_ _))), fun _ => HZ.out _ (by repeat (first | with_reducible exact hst.keep | with_reducible exact Kept.refl _ _ | with_reducible refine Kept.drew ?_ | with_reducible refine Kept.alloc ?_ _))⟩ (fun hH => ?_)
              clear hK K
              (try simp only [Act.put, List.setIfInBounds_toArray, List.set_cons_zero, List.set_cons_succ])
              refine wpT_ready (rs := [4, 12]) (by kernel_rfl) (by simp) ?_
              refine AllT.cons rfl (fun K hK => ?_) (AllT.cons rfl (fun K hK => ?_) AllT.nil)
              · skip
                clear hH
                apply stepK
                (case hgd => rfl)
                (case ho => rfl)
                (case hR => (repeat (first | with_reducible exact hst | with_reducible apply Rg.drew | apply Rg.allocK | apply Rg.allocI)))
                (case hs => (rw [HVK.out]; rfl))
                (case hx => rfl)
                (case hb => simp)
                (case h1 => rfl)
                (case hn => omega)
                all_goals skip
                intro g1 cap1 w9 hst
                refine hK.out _ _ ⟨HS.out _ (HSM.out _ (by repeat (first | with_reducible exact hst.keep | with_reducible exact Kept.refl _ _ | with_reducible refine Kept.drew ?_ | with_reducible refine Kept.alloc ?_ _))), fun _ => HZ.out _ (by repeat (first | with_reducible exact hst.keep | with_reducible exact Kept.refl _ _ | with_reducible refine Kept.drew ?_ | with_reducible refine Kept.alloc ?_ _))⟩ (fun hH => ?_)
                clear hK K
                (try simp only [Act.put, List.setIfInBounds_toArray])
                refine wpT_takeC (i := 14) (v := ?_) rfl (by kernel_rfl) (by kernel_rfl) (by kernel_rfl) (by kernel_rfl) (by kernel_rfl) (fun _ _ _ h => h) (Or.inl ⟨by rfl, ?_⟩) (by assumption) ?_
                rotate_left 1
                · intro W hSw
                  (try dsimp only at hSw)
                  go_simp
                  (try with_reducible rfl)
                (try simp only [Act.put])
                refine wpT_ready (rs := [12]) (by kernel_rfl) (by simp) ?_
                refine AllT.cons rfl (fun K hK => ?_) AllT.nil
                clear hH
                go_simp
                refine hK.out _ _ ⟨HS.out _ (HSM.out _ (by repeat (first | with_reducible exact hst.keep | with_reducible exact Kept.refl _ _ | with_reducible refine Kept.drew ?_ | with_reducible refine Kept.alloc ?_ _))), fun _ => HZ.out _ (by repeat (first | with_reducible exact hst.keep | with_reducible exact Kept.refl _ _ | with_reducible refine Kept.drew ?_ | with_reducible refine Kept.alloc ?_ _))⟩ (fun hH => ?_)
                clear hK K
                (try simp only [Act.put, List.setIfInBounds_toArray, List.set_cons_zero, List.set_cons_succ])
                refine wpT_ready (rs := [13]) (by kernel_rfl) (by simp) ?_
                refine AllT.cons rfl (fun K hK => ?_) AllT.nil
                clear hH
                apply stepI
                (case hgd => rfl)
                (case ho => rfl)
                (case hR => (repeat (first | with_reducible exact hst | with_reducible apply Rg.drew | apply Rg.allocK | apply Rg.allocI)))
                (case hs => (rw [HVI.out]; rfl))
                (case hx => rfl)
                (case hb => simp)
                (case hl => rfl)
                (case h1 => simp [Value.oneCell'])
                (case hn => omega)
                all_goals skip
                intro g2 cap2 w9 hst
                obtain ⟨z5, z6, z7, z8⟩ := HZ.out _ hst.keep
                refine hK.out _ _ ⟨HS.out _ (HSM.out _ (by repeat (first | with_reducible exact hst.keep | with_reducible exact Kept.refl _ _ | with_reducible refine Kept.drew ?_ | with_reducible refine Kept.alloc ?_ _))), fun _ => HZ.out _ (by repeat (first | with_reducible exact hst.keep | with_reducible exact Kept.refl _ _ | with_reducible refine Kept.drew ?_ | with_reducible refine Kept.alloc ?_ _))⟩ (fun hH => ?_)
                clear hK K
                (try simp only [Act.put, List.setIfInBounds_toArray])
                refine wpT_ready (rs := [15]) (by kernel_rfl) (by simp) ?_
                refine AllT.cons rfl (fun K hK => ?_) AllT.nil
                clear hH
                go_simp
                refine hK.out _ _ ⟨HS.out _ (by repeat (first | with_reducible exact HSM.out _ hst.keep | with_reducible refine Kept.drew ?_ | with_reducible refine Kept.alloc ?_ _ | refine Kept.setCell ?_ (Or.inr (by simp)) _)), fun h => absurd h (by decide)⟩ (fun hH => ?_)
                clear hK K
                (try simp only [Act.put, List.setIfInBounds_toArray, List.set_cons_zero, List.set_cons_succ])
                refine wpT_takeC (i := 16) (v := ?_) rfl (by kernel_rfl) (by kernel_rfl) (by kernel_rfl) (by kernel_rfl) (by kernel_rfl) (fun _ _ _ h => h) (Or.inl ⟨by rfl, ?_⟩) (by assumption) ?_
                rotate_left 1
                · intro W hSw
                  (try dsimp only at hSw)
                  go_simp
                  (try with_reducible rfl)
                (try simp only [Act.put, List.setIfInBounds_toArray])
                refine wpT_ready (rs := [17]) (by kernel_rfl) (by simp) ?_
                refine AllT.cons rfl (fun K hK => ?_) AllT.nil
                clear hH
                go_simp
                refine hK.out _ _ ⟨HS.out _ (by repeat (first | with_reducible exact HSM.out _ hst.keep | with_reducible refine Kept.drew ?_ | with_reducible refine Kept.alloc ?_ _ | refine Kept.setCell ?_ (Or.inr (by simp)) _)), fun h => absurd h (by decide)⟩ (fun hH => ?_)
                clear hK K
                (try simp only [Act.put, List.setIfInBounds_toArray, List.set_cons_zero, List.set_cons_succ])
                refine wpT_done (by kernel_rfl) ?_ _
                refine NoPanic.normal ?_
                have hput := put_round (y := (⟨k', i', g', r', s', keys', kids'⟩ : Nd)) hst rfl HB.out HOO.out.symm hNO hK2 HOW.out HFL.out (HND.out.kept hK2 (ltkB (Nat.le_trans hN hK0.size) (by simp))) hsz HSZ.out
                rw [← HPJ.out] at hput
                have HPU := Lib.hid hput; clear hput hst
                go_wp2_with fail
                exact ⟨⟨j + 1, S2 ++ [L[j]], _, _, _, by go_num, rfl, by omega, HPU.out.1, HPU.out.2.1, HPU.out.2.2, by rw [take_more hlt, HS2.out]; exact HQ.out⟩, by simp [intOf]; omega⟩
              · skip
                clear hH
                go_simp
                refine hK.out _ _ ⟨HS.out _ (HSM.out _ (by repeat (first | with_reducible exact hst.keep | with_reducible exact Kept.refl _ _ | with_reducible refine Kept.drew ?_ | with_reducible refine Kept.alloc ?_ _))), fun _ => HZ.out _ (by repeat (first | with_reducible exact hst.keep | with_reducible exact Kept.refl _ _ | with_reducible refine Kept.drew ?_ | with_reducible refine Kept.alloc ?_ _))⟩ (fun hH => ?_)
                clear hK K
                (try simp only [Act.put, List.setIfInBounds_toArray, List.set_cons_zero, List.set_cons_succ])
                refine wpT_ready (rs := [4]) (by kernel_rfl) (by simp) ?_
                refine AllT.cons rfl (fun K hK => ?_) AllT.nil
                clear hH
                apply stepK
                (case hgd => rfl)
                (case ho => rfl)
                (case hR => (repeat (first | with_reducible exact hst | with_reducible apply Rg.drew | apply Rg.allocK | apply Rg.allocI)))
                (case hs => (rw [HVK.out]; rfl))
                (case hx => rfl)
                (case hb => simp)
                (case h1 => rfl)
                (case hn => omega)
                all_goals skip
                intro g1 cap1 w9 hst
                refine hK.out _ _ ⟨HS.out _ (HSM.out _ (by repeat (first | with_reducible exact hst.keep | with_reducible exact Kept.refl _ _ | with_reducible refine Kept.drew ?_ | with_reducible refine Kept.alloc ?_ _))), fun _ => HZ.out _ (by repeat (first | with_reducible exact hst.keep | with_reducible exact Kept.refl _ _ | with_reducible refine Kept.drew ?_ | with_reducible refine Kept.alloc ?_ _))⟩ (fun hH => ?_)
                clear hK K
                (try simp only [Act.put, List.setIfInBounds_toArray])
                refine wpT_takeC (i := 14) (v := ?_) rfl (by kernel_rfl) (by kernel_rfl) (by kernel_rfl) (by kernel_rfl) (by kernel_rfl) (fun _ _ _ h => h) (Or.inl ⟨by rfl, ?_⟩) (by assumption) ?_
                rotate_left 1
                · intro W hSw
                  (try dsimp only at hSw)
                  go_simp
                  (try with_reducible rfl)
                (try simp only [Act.put])
                refine wpT_ready (rs := [13]) (by kernel_rfl) (by simp) ?_
                refine AllT.cons rfl (fun K hK => ?_) AllT.nil
                clear hH
                apply stepI
                (case hgd => rfl)
                (case ho => rfl)
                (case hR => (repeat (first | with_reducible exact hst | with_reducible apply Rg.drew | apply Rg.allocK | apply Rg.allocI)))
                (case hs => (rw [HVI.out]; rfl))
                (case hx => rfl)
                (case hb => simp)
                (case hl => rfl)
                (case h1 => simp [Value.oneCell'])
                (case hn => omega)
                all_goals skip
                intro g2 cap2 w9 hst
                obtain ⟨z5, z6, z7, z8⟩ := HZ.out _ hst.keep
                refine hK.out _ _ ⟨HS.out _ (HSM.out _ (by repeat (first | with_reducible exact hst.keep | with_reducible exact Kept.refl _ _ | with_reducible refine Kept.drew ?_ | with_reducible refine Kept.alloc ?_ _))), fun _ => HZ.out _ (by repeat (first | with_reducible exact hst.keep | with_reducible exact Kept.refl _ _ | with_reducible refine Kept.drew ?_ | with_reducible refine Kept.alloc ?_ _))⟩ (fun hH => ?_)
                clear hK K
                (try simp only [Act.put])
                refine wpT_ready (rs := [15]) (by kernel_rfl) (by simp) ?_
                refine AllT.cons rfl (fun K hK => ?_) AllT.nil
                clear hH
                go_simp
                refine hK.out _ _ ⟨HS.out _ (by repeat (first | with_reducible exact HSM.out _ hst.keep | with_reducible refine Kept.drew ?_ | with_reducible refine Kept.alloc ?_ _ | refine Kept.setCell ?_ (Or.inr (by simp)) _)), fun h => absurd h (by decide)⟩ (fun hH => ?_)
                clear hK K
                (try simp only [Act.put, List.setIfInBounds_toArray, List.set_cons_zero, List.set_cons_succ])
                refine wpT_takeC (i := 16) (v := ?_) rfl (by kernel_rfl) (by kernel_rfl) (by kernel_rfl) (by kernel_rfl) (by kernel_rfl) (fun _ _ _ h => h) (Or.inl ⟨by rfl, ?_⟩) (by assumption) ?_
                rotate_left 1
                · intro W hSw
                  (try dsimp only at hSw)
                  go_simp
                  (try with_reducible rfl)
                (try simp only [Act.put, List.setIfInBounds_toArray])
                refine wpT_ready (rs := [17]) (by kernel_rfl) (by simp) ?_
                refine AllT.cons rfl (fun K hK => ?_) AllT.nil
                clear hH
                go_simp
                refine hK.out _ _ ⟨HS.out _ (by repeat (first | with_reducible exact HSM.out _ hst.keep | with_reducible refine Kept.drew ?_ | with_reducible refine Kept.alloc ?_ _ | refine Kept.setCell ?_ (Or.inr (by simp)) _)), fun h => absurd h (by decide)⟩ (fun hH => ?_)
                clear hK K
                (try simp only [Act.put, List.setIfInBounds_toArray, List.set_cons_zero, List.set_cons_succ])
                refine wpT_done (by kernel_rfl) ?_ _
                refine NoPanic.normal ?_
                have hput := put_round (y := (⟨k', i', g', r', s', keys', kids'⟩ : Nd)) hst rfl HB.out HOO.out.symm hNO hK2 HOW.out HFL.out (HND.out.kept hK2 (ltkB (Nat.le_trans hN hK0.size) (by simp))) hsz HSZ.out
                rw [← HPJ.out] at hput
                have HPU := Lib.hid hput; clear hput hst
                go_wp2_with fail
                exact ⟨⟨j + 1, S2 ++ [L[j]], _, _, _, by go_num, rfl, by omega, HPU.out.1, HPU.out.2.1, HPU.out.2.2, by rw [take_more hlt, HS2.out]; exact HQ.out⟩, by simp [intOf]; omega⟩
            · skip
              clear hH
              go_simp
              refine hK.out _ _ ⟨HS.out _ (HSM.out _ (by repeat (first | with_reducible exact hst.keep | with_reducible exact Kept.refl _ _ | with_reducible refine Kept.drew ?_ | with_reducible refine Kept.alloc ?_ _))), fun _ => HZ.out _ (by repeat (first | with_reducible exact hst.keep | with_reducible exact Kept.refl _ _ | with_reducible refine Kept.drew ?_ | with_reducible refine Kept.alloc ?_ _))⟩ (fun hH => ?_)
              clear hK K
              (try simp only [Act.put, List.setIfInBounds_toArray, List.set_cons_zero, List.set_cons_succ])
              refine wpT_ready (rs := [3]) (by kernel_rfl) (by simp) ?_
              refine AllT.cons rfl (fun K hK => ?_) AllT.nil
              clear hH
              go_simp
              refine hK.out _ _ ⟨HS.out _ (HSM.out _ (by repeat (first | with_reducible exact hst.keep | with_reducible exact Kept.refl _ _ | with_reducible refine Kept.drew ?_ | with_reducible refine Kept.alloc ?_ _))), fun _ => HZ.out _ (by repeat (first | with_reducible exact hst.keep | with_reducible exact Kept.refl _ _ | with_reducible refine Kept.drew ?_ | with_reducible refine Kept.alloc ?_ _))⟩ (fun hH => ?_)
              clear hK K
              (try simp only [Act.put, List.setIfInBounds_toArray, List.set_cons_zero, List.set_cons_succ])
              refine wpT_ready (rs := [4]) (by kernel_rfl) (by simp) ?_
              refine AllT.cons rfl (fun K hK => ?_) AllT.nil
              clear hH
              apply stepK
              (case hgd => rfl)
              (case ho => rfl)
              (case hR => (repeat (first | with_reducible exact hst | with_reducible apply Rg.drew | apply Rg.allocK | apply Rg.allocI)))
              (case hs => (rw [HVK.out]; rfl))
              (case hx => rfl)
              (case hb => simp)
              (case h1 => rfl)
              (case hn => omega)
              all_goals skip
              intro g1 cap1 w9 hst
              refine hK.out _ _ ⟨HS.out _ (HSM.out _ (by repeat (first | with_reducible exact hst.keep | with_reducible exact Kept.refl _ _ | with_reducible refine Kept.drew ?_ | with_reducible refine Kept.alloc ?_ _))), fun _ => HZ.out _ (by repeat (first | with_reducible exact hst.keep | with_reducible exact Kept.refl _ _ | with_reducible refine Kept.drew ?_ | with_reducible refine Kept.alloc ?_ _))⟩ (fun hH => ?_)
              clear hK K
              (try simp only [Act.put, List.setIfInBounds_toArray])
              refine wpT_takeC (i := 14) (v := ?_) rfl (by kernel_rfl) (by kernel_rfl) (by kernel_rfl) (by kernel_rfl) (by kernel_rfl) (fun _ _ _ h => h) (Or.inl ⟨by rfl, ?_⟩) (by assumption) ?_
              rotate_left 1
              · intro W hSw
                (try dsimp only at hSw)
                go_simp
                (try with_reducible rfl)
              (try simp only [Act.put])
              refine wpT_ready (rs := [13]) (by kernel_rfl) (by simp) ?_
              refine AllT.cons rfl (fun K hK => ?_) AllT.nil
              clear hH
              apply stepI
              (case hgd => rfl)
              (case ho => rfl)
              (case hR => (repeat (first | with_reducible exact hst | with_reducible apply Rg.drew | apply Rg.allocK | apply Rg.allocI)))
              (case hs => (rw [HVI.out]; rfl))
              (case hx => rfl)
              (case hb => simp)
              (case hl => rfl)
              (case h1 => simp [Value.oneCell'])
              (case hn => omega)
              all_goals skip
              intro g2 cap2 w9 hst
              obtain ⟨z5, z6, z7, z8⟩ := HZ.out _ hst.keep
              refine hK.out _ _ ⟨HS.out _ (HSM.out _ (by repeat (first | with_reducible exact hst.keep | with_reducible exact Kept.refl _ _ | with_reducible refine Kept.drew ?_ | with_reducible refine Kept.alloc ?_ _))), fun _ => HZ.out _ (by repeat (first | with_reducible exact hst.keep | with_reducible exact Kept.refl _ _ | with_reducible refine Kept.drew ?_ | with_reducible refine Kept.alloc ?_ _))⟩ (fun hH => ?_)
              clear hK K
              (try simp only [Act.put])
              refine wpT_ready (rs := [15]) (by kernel_rfl) (by simp) ?_
              refine AllT.cons rfl (fun K hK => ?_) AllT.nil
              clear hH
              go_simp
              refine hK.out _ _ ⟨HS.out _ (by repeat (first | with_reducible exact HSM.out _ hst.keep | with_reducible refine Kept.drew ?_ | with_reducible refine Kept.alloc ?_ _ | refine Kept.setCell ?_ (Or.inr (by simp)) _)), fun h => absurd h (by decide)⟩ (fun hH => ?_)
              clear hK K
              (try simp only [Act.put, List.setIfInBounds_toArray, List.set_cons_zero, List.set_cons_succ])
              refine wpT_takeC (i := 16) (v := ?_) rfl (by kernel_rfl) (by kernel_rfl) (by kernel_rfl) (by kernel_rfl) (by kernel_rfl) (fun _ _ _ h => h) (Or.inl ⟨by rfl, ?_⟩) (by assumption) ?_
              rotate_left 1
              · intro W hSw
                (try dsimp only at hSw)
                go_simp
                (try with_reducible rfl)
              (try simp only [Act.put, List.setIfInBounds_toArray])
              refine wpT_ready (rs := [17]) (by kernel_rfl) (by simp) ?_
              refine AllT.cons rfl (fun K hK => ?_) AllT.nil
              clear hH
              go_simp
              refine hK.out _ _ ⟨HS.out _ (by repeat (first | with_reducible exact HSM.out _ hst.keep | with_reducible refine Kept.drew ?_ | with_reducible refine Kept.alloc ?_ _ | refine Kept.setCell ?_ (Or.inr (by simp)) _)), fun h => absurd h (by decide)⟩ (fun hH => ?_)
              clear hK K
              (try simp only [Act.put, List.setIfInBounds_toArray, List.set_cons_zero, List.set_cons_succ])
              refine wpT_done (by kernel_rfl) ?_ _
              refine NoPanic.normal ?_
              have hput := put_round (y := (⟨k', i', g', r', s', keys', kids'⟩ : Nd)) hst rfl HB.out HOO.out.symm hNO hK2 HOW.out HFL.out (HND.out.kept hK2 (ltkB (Nat.le_trans hN hK0.size) (by simp))) hsz HSZ.out
              rw [← HPJ.out] at hput
              have HPU := Lib.hid hput; clear hput hst
              go_wp2_with fail
              exact ⟨⟨j + 1, S2 ++ [L[j]], _, _, _, by go_num, rfl, by omega, HPU.out.1, HPU.out.2.1, HPU.out.2.2, by rw [take_more hlt, HS2.out]; exact HQ.out⟩, by simp [intOf]; omega⟩
      · have hab := HPI.out.above HTL.out
        have hq := HPI.out.more HTL.out
        have zn := beq_not (lt_ne hab).symm
        have HQ := Lib.hid hq; clear hq hab
        go_wp2_with fail
        have hOb := HOb.out; have hout := HOut.out
        obtain ⟨hkr, ⟨cs, hir, hfl⟩, hne, hszS⟩ := hout
        obtain ⟨ak, ck, hvk⟩ := own_form hkr
        obtain ⟨ai, ci, hvi⟩ := own_form hir
        have hown : ∀ b, vk.ownBlock = some b ∨ vi.ownBlock = some b → O + 1 ≤ b := fun b hb => by
          rcases hb with hb | hb
          · exact (ownsRow_lt hkr hb).2
          · exact (ownsRow_lt hir hb).2
        have hOl := lt_of_block hOb
        have hZ : ∀ W, Kept (vk.ownBlock.toList ++ vi.ownBlock.toList) wr W → W.cell? ⟨O, 5, none⟩ = some (.slice ak S.length ck) ∧ W.cell? ⟨O, 6, none⟩ = some (.slice ai S.length ci) ∧ W.frozen? ⟨O, 5, none⟩ = false ∧ W.frozen? ⟨O, 6, none⟩ = false := fun W hW => by
          have hb := hW.block O hOl (fun hm => by have := hown O (by simpa using hm); omega)
          obtain ⟨⟨_, _, _, _, _, y5, y6⟩, _, _, _, _, _, q5, q6⟩ := seven hOb
          rw [hvk] at y5
          rw [hvi] at y6
          exact ⟨(World.cell?_of_block hb).trans y5, (World.cell?_of_block hb).trans y6, (World.frozen?_of_block hb).trans q5, (World.frozen?_of_block hb).trans q6⟩
        have hSM : ∀ W, Kept (vk.ownBlock.toList ++ vi.ownBlock.toList) wr W → Kept (O :: (vk.ownBlock.toList ++ vi.ownBlock.toList)) wr W := fun W h => h.mono fun x hx _ => List.mem_cons_of_mem _ hx
        have hE : ∀ W, Kept (O :: (vk.ownBlock.toList ++ vi.ownBlock.toList)) wr W → ∀ b p, b < O → W.cell? ⟨b, p, none⟩ = w0.cell? ⟨b, p, none⟩ := fun W hW b p hb => by
          have hin : ∀ x ∈ O :: (vk.ownBlock.toList ++ vi.ownBlock.toList), O ≤ x := fun x hx => by
            rcases List.mem_cons.1 hx with h | h
            · omega
            · have := hown x (by simpa using h); omega
          exact (hW.cell (by omega) fun hm => by have := hin _ hm; omega).trans (hK.cell (by have := HOO.out; omega) (by simp))
        have HSM := Lib.hid hSM; have HZ := Lib.hid hZ; have HE := Lib.hid hE; have HOW := Lib.hid hown; have HSZ := Lib.hid hszS; have HFL := Lib.hid hfl; have HB := Lib.hid hOb
        have HVK := Lib.hid hvk; have HVI := Lib.hid hvi; clear hvk hvi hSM hZ hE hown hszS hfl
        have hst := Rg.start (.string (L[j]).1) [.int .i64 k', .int .i64 i', .int .i64 g', .float .f64 r', .string s', .slice ka' keys'.length kc', .slice a' kids'.len cap'] hkr hir hne (by omega : O + 1 ≤ wr.heap.size)
        have hS : ∀ W, Kept (O :: (vk.ownBlock.toList ++ vi.ownBlock.toList)) wr W → (W.cell? ⟨w.heap.size, 6, none⟩ = some (.slice (some ⟨b', o', none⟩) L.length cap) ∧
            W.cell? ⟨b', o' + j * 7, none⟩ = some (.int .i64 k') ∧ W.cell? ⟨b', o' + j * 7 + 1, none⟩ = some (.int .i64 i') ∧ W.cell? ⟨b', o' + j * 7 + 2, none⟩ = some (.int .i64 g') ∧ W.cell? ⟨b', o' + j * 7 + 3, none⟩ = some (.float .f64 r') ∧
            W.cell? ⟨b', o' + j * 7 + 4, none⟩ = some (.string s') ∧ W.cell? ⟨b', o' + j * 7 + 5, none⟩ = some (.slice ka' keys'.length kc') ∧ W.cell? ⟨b', o' + j * 7 + 6, none⟩ = some (.slice a' kids'.len cap')) := fun W hW => by
          have e := HE.out W hW
          obtain ⟨⟨_, _, _, _, _, _, x6⟩, _⟩ := seven HX.out
          obtain ⟨d0, d1, d2, d3, d4, d5, d6⟩ := HC7.out
          exact ⟨(e _ _ (by omega)).trans x6, (e _ _ hbO).trans d0, (e _ _ hbO).trans d1, (e _ _ hbO).trans d2, (e _ _ hbO).trans d3, (e _ _ hbO).trans d4, (e _ _ hbO).trans d5, (e _ _ hbO).trans d6⟩
        have HS := Lib.hid hS; clear hS hkr hir hne hOb
        refine wp_region_noPanic ?_
        refine wp_region_T (C := fun W => W.cell? ⟨w.heap.size, 6, none⟩ = some (.slice (some ⟨b', o', none⟩) L.length cap) ∧
            W.cell? ⟨b', o' + j * 7, none⟩ = some (.int .i64 k') ∧ W.cell? ⟨b', o' + j * 7 + 1, none⟩ = some (.int .i64 i') ∧ W.cell? ⟨b', o' + j * 7 + 2, none⟩ = some (.int .i64 g') ∧ W.cell? ⟨b', o' + j * 7 + 3, none⟩ = some (.float .f64 r') ∧
            W.cell? ⟨b', o' + j * 7 + 4, none⟩ = some (.string s') ∧ W.cell? ⟨b', o' + j * 7 + 5, none⟩ = some (.slice ka' keys'.length kc') ∧ W.cell? ⟨b', o' + j * 7 + 6, none⟩ = some (.slice a' kids'.len cap'))
          (D := fun W => W.cell? ⟨O, 5, none⟩ = some (.slice ak S.length ck) ∧ W.cell? ⟨O, 6, none⟩ = some (.slice ai S.length ci) ∧ W.frozen? ⟨O, 5, none⟩ = false ∧ W.frozen? ⟨O, 6, none⟩ = false) (st := 15) (by kernel_rfl)
          ⟨HS.out _ (Kept.refl _ _).drew, fun _ => HZ.out _ (Kept.refl _ _).drew⟩ (fun hH => ?_)
        refine wpT_takeC (i := 0) (v := ?_) rfl (by kernel_rfl) (by kernel_rfl) (by kernel_rfl) (by kernel_rfl) (by kernel_rfl) (fun _ _ _ h => h) (Or.inl ⟨by rfl, ?_⟩) (by assumption) ?_
        rotate_left 1
        · intro W hSw
          (try dsimp only at hSw)
          go_simp
          (try with_reducible rfl)
        (try simp only [Act.put, List.setIfInBounds_toArray])
        refine wpT_takeD (i := 1) (v := ?_) rfl (by kernel_rfl) (by kernel_rfl) (by kernel_rfl) (by kernel_rfl) (by kernel_rfl) (fun _ _ _ h => h) (Or.inl ⟨by rfl, ?_⟩) (by assumption) ?_
        rotate_left 1
        · intro W hSw
          (try dsimp only at hSw)
          go_simp
          (try with_reducible rfl)
        (try simp only [Act.put])
        refine wpT_takeC (i := 2) (v := ?_) rfl (by kernel_rfl) (by kernel_rfl) (by kernel_rfl) (by kernel_rfl) (by kernel_rfl) (fun _ _ _ h => h) (Or.inl ⟨by rfl, ?_⟩) (by assumption) ?_
        rotate_left 1
        · intro W hSw
          (try dsimp only at hSw)
          go_simp
          (try with_reducible rfl)
        (try simp only [Act.put])
        refine wpT_takeC (i := 5) (v := ?_) rfl (by kernel_rfl) (by kernel_rfl) (by kernel_rfl) (by kernel_rfl) (by kernel_rfl) (fun _ _ _ h => h) (Or.inl ⟨by rfl, ?_⟩) (by assumption) ?_
        rotate_left 1
        · intro W hSw
          (try dsimp only at hSw)
          go_simp
          (try with_reducible rfl)
        (try simp only [Act.put])
        refine wpT_takeD (i := 6) (v := ?_) rfl (by kernel_rfl) (by kernel_rfl) (by kernel_rfl) (by kernel_rfl) (by kernel_rfl) (fun _ _ _ h => h) (Or.inl ⟨by rfl, ?_⟩) (by assumption) ?_
        rotate_left 1
        · intro W hSw
          (try dsimp only at hSw)
          go_simp
          (try with_reducible rfl)
        (try simp only [Act.put])
        refine wpT_takeC (i := 7) (v := ?_) rfl (by kernel_rfl) (by kernel_rfl) (by kernel_rfl) (by kernel_rfl) (by kernel_rfl) (fun _ _ _ h => h) (Or.inl ⟨by rfl, ?_⟩) (by assumption) ?_
        rotate_left 1
        · intro W hSw
          (try dsimp only at hSw)
          go_simp
          (try with_reducible rfl)
        (try simp only [Act.put])
        refine wpT_takeC (i := 8) (v := ?_) rfl (by kernel_rfl) (by kernel_rfl) (by kernel_rfl) (by kernel_rfl) (by kernel_rfl) (fun _ _ _ h => h) (Or.inl ⟨by rfl, ?_⟩) (by assumption) ?_
        rotate_left 1
        · intro W hSw
          (try dsimp only at hSw)
          go_simp
          (try with_reducible rfl)
        (try simp only [Act.put])
        refine wpT_takeC (i := 9) (v := ?_) rfl (by kernel_rfl) (by kernel_rfl) (by kernel_rfl) (by kernel_rfl) (by kernel_rfl) (fun _ _ _ h => h) (Or.inl ⟨by rfl, ?_⟩) (by assumption) ?_
        rotate_left 1
        · intro W hSw
          (try dsimp only at hSw)
          go_simp
          (try with_reducible rfl)
        (try simp only [Act.put])
        refine wpT_takeC (i := 10) (v := ?_) rfl (by kernel_rfl) (by kernel_rfl) (by kernel_rfl) (by kernel_rfl) (by kernel_rfl) (fun _ _ _ h => h) (Or.inl ⟨by rfl, ?_⟩) (by assumption) ?_
        rotate_left 1
        · intro W hSw
          (try dsimp only at hSw)
          go_simp
          (try with_reducible rfl)
        (try simp only [Act.put])
        refine wpT_takeC (i := 11) (v := ?_) rfl (by kernel_rfl) (by kernel_rfl) (by kernel_rfl) (by kernel_rfl) (by kernel_rfl) (fun _ _ _ h => h) (Or.inl ⟨by rfl, ?_⟩) (by assumption) ?_
        rotate_left 1
        · intro W hSw
          (try dsimp only at hSw)
          go_simp
          (try with_reducible rfl)
        (try simp only [Act.put])
        refine wpT_ready (rs := [3, 12]) (by kernel_rfl) (by simp) ?_
        refine AllT.cons rfl (fun K hK => ?_) (AllT.cons rfl (fun K hK => ?_) AllT.nil)
        · skip
          clear hH
          go_simp
          refine hK.out _ _ ⟨HS.out _ (HSM.out _ (by repeat (first | with_reducible exact hst.keep | with_reducible exact Kept.refl _ _ | with_reducible refine Kept.drew ?_ | with_reducible refine Kept.alloc ?_ _))), fun _ => HZ.out _ (by repeat (first | with_reducible exact hst.keep | with_reducible exact Kept.refl _ _ | with_reducible refine Kept.drew ?_ | with_reducible refine Kept.alloc ?_ _))⟩ (fun hH => ?_)
          clear hK K
          (try simp only [Act.put, List.setIfInBounds_toArray, List.set_cons_zero, List.set_cons_succ])
          refine wpT_ready (rs := [4, 12]) (by kernel_rfl) (by simp) ?_
          refine AllT.cons rfl (fun K hK => ?_) (AllT.cons rfl (fun K hK => ?_) AllT.nil)
          · skip
            clear hH
            apply stepK
            (case hgd => rfl)
            (case ho => rfl)
            (case hR => (repeat (first | with_reducible exact hst | with_reducible apply Rg.drew | apply Rg.allocK | apply Rg.allocI)))
            (case hs => (rw [HVK.out]; rfl))
            (case hx => rfl)
            (case hb => simp)
            (case h1 => rfl)
            (case hn => omega)
            all_goals skip
            intro g1 cap1 w9 hst
            refine hK.out _ _ ⟨HS.out _ (HSM.out _ (by repeat (first | with_reducible exact hst.keep | with_reducible exact Kept.refl _ _ | with_reducible refine Kept.drew ?_ | with_reducible refine Kept.alloc ?_ _))), fun _ => HZ.out _ (by repeat (first | with_reducible exact hst.keep | with_reducible exact Kept.refl _ _ | with_reducible refine Kept.drew ?_ | with_reducible refine Kept.alloc ?_ _))⟩ (fun hH => ?_)
            clear hK K
            (try simp only [Act.put, List.setIfInBounds_toArray])
            refine wpT_takeC (i := 14) (v := ?_) rfl (by kernel_rfl) (by kernel_rfl) (by kernel_rfl) (by kernel_rfl) (by kernel_rfl) (fun _ _ _ h => h) (Or.inl ⟨by rfl, ?_⟩) (by assumption) ?_
            rotate_left 1
            · intro W hSw
              (try dsimp only at hSw)
              go_simp
              (try with_reducible rfl)
            (try simp only [Act.put])
            refine wpT_ready (rs := [12]) (by kernel_rfl) (by simp) ?_
            refine AllT.cons rfl (fun K hK => ?_) AllT.nil
            clear hH
            go_simp
            refine hK.out _ _ ⟨HS.out _ (HSM.out _ (by repeat (first | with_reducible exact hst.keep | with_reducible exact Kept.refl _ _ | with_reducible refine Kept.drew ?_ | with_reducible refine Kept.alloc ?_ _))), fun _ => HZ.out _ (by repeat (first | with_reducible exact hst.keep | with_reducible exact Kept.refl _ _ | with_reducible refine Kept.drew ?_ | with_reducible refine Kept.alloc ?_ _))⟩ (fun hH => ?_)
            clear hK K
            (try simp only [Act.put, List.setIfInBounds_toArray, List.set_cons_zero, List.set_cons_succ])
            refine wpT_ready (rs := [13]) (by kernel_rfl) (by simp) ?_
            refine AllT.cons rfl (fun K hK => ?_) AllT.nil
            clear hH
            apply stepI
            (case hgd => rfl)
            (case ho => rfl)
            (case hR => (repeat (first | with_reducible exact hst | with_reducible apply Rg.drew | apply Rg.allocK | apply Rg.allocI)))
            (case hs => (rw [HVI.out]; rfl))
            (case hx => rfl)
            (case hb => simp)
            (case hl => rfl)
            (case h1 => simp [Value.oneCell'])
            (case hn => omega)
            all_goals skip
            intro g2 cap2 w9 hst
            obtain ⟨z5, z6, z7, z8⟩ := HZ.out _ hst.keep
            refine hK.out _ _ ⟨HS.out _ (HSM.out _ (by repeat (first | with_reducible exact hst.keep | with_reducible exact Kept.refl _ _ | with_reducible refine Kept.drew ?_ | with_reducible refine Kept.alloc ?_ _))), fun _ => HZ.out _ (by repeat (first | with_reducible exact hst.keep | with_reducible exact Kept.refl _ _ | with_reducible refine Kept.drew ?_ | with_reducible refine Kept.alloc ?_ _))⟩ (fun hH => ?_)
            clear hK K
            (try simp only [Act.put, List.setIfInBounds_toArray])
            refine wpT_ready (rs := [15]) (by kernel_rfl) (by simp) ?_
            refine AllT.cons rfl (fun K hK => ?_) AllT.nil
            clear hH
            go_simp
            refine hK.out _ _ ⟨HS.out _ (by repeat (first | with_reducible exact HSM.out _ hst.keep | with_reducible refine Kept.drew ?_ | with_reducible refine Kept.alloc ?_ _ | refine Kept.setCell ?_ (Or.inr (by simp)) _)), fun h => absurd h (by decide)⟩ (fun hH => ?_)
            clear hK K
            (try simp only [Act.put, List.setIfInBounds_toArray, List.set_cons_zero, List.set_cons_succ])
            refine wpT_takeC (i := 16) (v := ?_) rfl (by kernel_rfl) (by kernel_rfl) (by kernel_rfl) (by kernel_rfl) (by kernel_rfl) (fun _ _ _ h => h) (Or.inl ⟨by rfl, ?_⟩) (by assumption) ?_
            rotate_left 1
            · intro W hSw
              (try dsimp only at hSw)
              go_simp
              (try with_reducible rfl)
            (try simp only [Act.put, List.setIfInBounds_toArray])
            refine wpT_ready (rs := [17]) (by kernel_rfl) (by simp) ?_
            refine AllT.cons rfl (fun K hK => ?_) AllT.nil
            clear hH
            go_simp
            refine hK.out _ _ ⟨HS.out _ (by repeat (first | with_reducible exact HSM.out _ hst.keep | with_reducible refine Kept.drew ?_ | with_reducible refine Kept.alloc ?_ _ | refine Kept.setCell ?_ (Or.inr (by simp)) _)), fun h => absurd h (by decide)⟩ (fun hH => ?_)
            clear hK K
            (try simp only [Act.put, List.setIfInBounds_toArray, List.set_cons_zero, List.set_cons_succ])
            refine wpT_done (by kernel_rfl) ?_ _
            refine NoPanic.normal ?_
            have hput := put_round (y := (⟨k', i', g', r', s', keys', kids'⟩ : Nd)) hst rfl HB.out HOO.out.symm hNO hK HOW.out HFL.out (HND.out.kept hK (ltkB (Nat.le_trans hN hK0.size) (by simp))) hsz HSZ.out
            rw [← HPJ.out] at hput
            have HPU := Lib.hid hput; clear hput hst
            go_wp2_with fail
            exact ⟨⟨j + 1, S ++ [L[j]], _, _, _, by go_num, rfl, by omega, HPU.out.1, HPU.out.2.1, HPU.out.2.2, by rw [take_more hlt]; exact HQ.out⟩, by simp [intOf]; omega⟩
          · skip
            clear hH
            go_simp
            refine hK.out _ _ ⟨HS.out _ (HSM.out _ (by repeat (first | with_reducible exact hst.keep | with_reducible exact Kept.refl _ _ | with_reducible refine Kept.drew ?_ | with_reducible refine Kept.alloc ?_ _))), fun _ => HZ.out _ (by repeat (first | with_reducible exact hst.keep | with_reducible exact Kept.refl _ _ | with_reducible refine Kept.drew ?_ | with_reducible refine Kept.alloc ?_ _))⟩ (fun hH => ?_)
            clear hK K
            (try simp only [Act.put, List.setIfInBounds_toArray, List.set_cons_zero, List.set_cons_succ])
            refine wpT_ready (rs := [4]) (by kernel_rfl) (by simp) ?_
            refine AllT.cons rfl (fun K hK => ?_) AllT.nil
            clear hH
            apply stepK
            (case hgd => rfl)
            (case ho => rfl)
            (case hR => (repeat (first | with_reducible exact hst | with_reducible apply Rg.drew | apply Rg.allocK | apply Rg.allocI)))
            (case hs => (rw [HVK.out]; rfl))
            (case hx => rfl)
            (case hb => simp)
            (case h1 => rfl)
            (case hn => omega)
            all_goals skip
            intro g1 cap1 w9 hst
            refine hK.out _ _ ⟨HS.out _ (HSM.out _ (by repeat (first | with_reducible exact hst.keep | with_reducible exact Kept.refl _ _ | with_reducible refine Kept.drew ?_ | with_reducible refine Kept.alloc ?_ _))), fun _ => HZ.out _ (by repeat (first | with_reducible exact hst.keep | with_reducible exact Kept.refl _ _ | with_reducible refine Kept.drew ?_ | with_reducible refine Kept.alloc ?_ _))⟩ (fun hH => ?_)
            clear hK K
            (try simp only [Act.put, List.setIfInBounds_toArray])
            refine wpT_takeC (i := 14) (v := ?_) rfl (by kernel_rfl) (by kernel_rfl) (by kernel_rfl) (by kernel_rfl) (by kernel_rfl) (fun _ _ _ h => h) (Or.inl ⟨by rfl, ?_⟩) (by assumption) ?_
            rotate_left 1
            · intro W hSw
              (try dsimp only at hSw)
              go_simp
              (try with_reducible rfl)
            (try simp only [Act.put])
            refine wpT_ready (rs := [13]) (by kernel_rfl) (by simp) ?_
            refine AllT.cons rfl (fun K hK => ?_) AllT.nil
            clear hH
            apply stepI
            (case hgd => rfl)
            (case ho => rfl)
            (case hR => (repeat (first | with_reducible exact hst | with_reducible apply Rg.drew | apply Rg.allocK | apply Rg.allocI)))
            (case hs => (rw [HVI.out]; rfl))
            (case hx => rfl)
            (case hb => simp)
            (case hl => rfl)
            (case h1 => simp [Value.oneCell'])
            (case hn => omega)
            all_goals skip
            intro g2 cap2 w9 hst
            obtain ⟨z5, z6, z7, z8⟩ := HZ.out _ hst.keep
            refine hK.out _ _ ⟨HS.out _ (HSM.out _ (by repeat (first | with_reducible exact hst.keep | with_reducible exact Kept.refl _ _ | with_reducible refine Kept.drew ?_ | with_reducible refine Kept.alloc ?_ _))), fun _ => HZ.out _ (by repeat (first | with_reducible exact hst.keep | with_reducible exact Kept.refl _ _ | with_reducible refine Kept.drew ?_ | with_reducible refine Kept.alloc ?_ _))⟩ (fun hH => ?_)
            clear hK K
            (try simp only [Act.put])
            refine wpT_ready (rs := [15]) (by kernel_rfl) (by simp) ?_
            refine AllT.cons rfl (fun K hK => ?_) AllT.nil
            clear hH
            go_simp
            refine hK.out _ _ ⟨HS.out _ (by repeat (first | with_reducible exact HSM.out _ hst.keep | with_reducible refine Kept.drew ?_ | with_reducible refine Kept.alloc ?_ _ | refine Kept.setCell ?_ (Or.inr (by simp)) _)), fun h => absurd h (by decide)⟩ (fun hH => ?_)
            clear hK K
            (try simp only [Act.put, List.setIfInBounds_toArray, List.set_cons_zero, List.set_cons_succ])
            refine wpT_takeC (i := 16) (v := ?_) rfl (by kernel_rfl) (by kernel_rfl) (by kernel_rfl) (by kernel_rfl) (by kernel_rfl) (fun _ _ _ h => h) (Or.inl ⟨by rfl, ?_⟩) (by assumption) ?_
            rotate_left 1
            · intro W hSw
              (try dsimp only at hSw)
              go_simp
              (try with_reducible rfl)
            (try simp only [Act.put, List.setIfInBounds_toArray])
            refine wpT_ready (rs := [17]) (by kernel_rfl) (by simp) ?_
            refine AllT.cons rfl (fun K hK => ?_) AllT.nil
            clear hH
            go_simp
            refine hK.out _ _ ⟨HS.out _ (by repeat (first | with_reducible exact HSM.out _ hst.keep | with_reducible refine Kept.drew ?_ | with_reducible refine Kept.alloc ?_ _ | refine Kept.setCell ?_ (Or.inr (by simp)) _)), fun h => absurd h (by decide)⟩ (fun hH => ?_)
            clear hK K
            (try simp only [Act.put, List.setIfInBounds_toArray, List.set_cons_zero, List.set_cons_succ])
            refine wpT_done (by kernel_rfl) ?_ _
            refine NoPanic.normal ?_
            have hput := put_round (y := (⟨k', i', g', r', s', keys', kids'⟩ : Nd)) hst rfl HB.out HOO.out.symm hNO hK HOW.out HFL.out (HND.out.kept hK (ltkB (Nat.le_trans hN hK0.size) (by simp))) hsz HSZ.out
            rw [← HPJ.out] at hput
            have HPU := Lib.hid hput; clear hput hst
            go_wp2_with fail
            exact ⟨⟨j + 1, S ++ [L[j]], _, _, _, by go_num, rfl, by omega, HPU.out.1, HPU.out.2.1, HPU.out.2.2, by rw [take_more hlt]; exact HQ.out⟩, by simp [intOf]; omega⟩
        · skip
          clear hH
          go_simp
          refine hK.out _ _ ⟨HS.out _ (HSM.out _ (by repeat (first | with_reducible exact hst.keep | with_reducible exact Kept.refl _ _ | with_reducible refine Kept.drew ?_ | with_reducible refine Kept.alloc ?_ _))), fun _ => HZ.out _ (by repeat (first | with_reducible exact hst.keep | with_reducible exact Kept.refl _ _ | with_reducible refine Kept.drew ?_ | with_reducible refine Kept.alloc ?_ _))⟩ (fun hH => ?_)
          clear hK K
          (try simp only [Act.put, List.setIfInBounds_toArray, List.set_cons_zero, List.set_cons_succ])
          refine wpT_ready (rs := [3]) (by kernel_rfl) (by simp) ?_
          refine AllT.cons rfl (fun K hK => ?_) AllT.nil
          clear hH
          go_simp
          refine hK.out _ _ ⟨HS.out _ (HSM.out _ (by repeat (first | with_reducible exact hst.keep | with_reducible exact Kept.refl _ _ | with_reducible refine Kept.drew ?_ | with_reducible refine Kept.alloc ?_ _))), fun _ => HZ.out _ (by repeat (first | with_reducible exact hst.keep | with_reducible exact Kept.refl _ _ | with_reducible refine Kept.drew ?_ | with_reducible refine Kept.alloc ?_ _))⟩ (fun hH => ?_)
          clear hK K
          (try simp only [Act.put, List.setIfInBounds_toArray, List.set_cons_zero, List.set_cons_succ])
          refine wpT_ready (rs := [4]) (by kernel_rfl) (by simp) ?_
          refine AllT.cons rfl (fun K hK => ?_) AllT.nil
          clear hH
          apply stepK
          (case hgd => rfl)
          (case ho => rfl)
          (case hR => (repeat (first | with_reducible exact hst | with_reducible apply Rg.drew | apply Rg.allocK | apply Rg.allocI)))
          (case hs => (rw [HVK.out]; rfl))
          (case hx => rfl)
          (case hb => simp)
          (case h1 => rfl)
          (case hn => omega)
          all_goals skip
          intro g1 cap1 w9 hst
          refine hK.out _ _ ⟨HS.out _ (HSM.out _ (by repeat (first | with_reducible exact hst.keep | with_reducible exact Kept.refl _ _ | with_reducible refine Kept.drew ?_ | with_reducible refine Kept.alloc ?_ _))), fun _ => HZ.out _ (by repeat (first | with_reducible exact hst.keep | with_reducible exact Kept.refl _ _ | with_reducible refine Kept.drew ?_ | with_reducible refine Kept.alloc ?_ _))⟩ (fun hH => ?_)
          clear hK K
          (try simp only [Act.put, List.setIfInBounds_toArray])
          refine wpT_takeC (i := 14) (v := ?_) rfl (by kernel_rfl) (by kernel_rfl) (by kernel_rfl) (by kernel_rfl) (by kernel_rfl) (fun _ _ _ h => h) (Or.inl ⟨by rfl, ?_⟩) (by assumption) ?_
          rotate_left 1
          · intro W hSw
            (try dsimp only at hSw)
            go_simp
            (try with_reducible rfl)
          (try simp only [Act.put])
          refine wpT_ready (rs := [13]) (by kernel_rfl) (by simp) ?_
          refine AllT.cons rfl (fun K hK => ?_) AllT.nil
          clear hH
          apply stepI
          (case hgd => rfl)
          (case ho => rfl)
          (case hR => (repeat (first | with_reducible exact hst | with_reducible apply Rg.drew | apply Rg.allocK | apply Rg.allocI)))
          (case hs => (rw [HVI.out]; rfl))
          (case hx => rfl)
          (case hb => simp)
          (case hl => rfl)
          (case h1 => simp [Value.oneCell'])
          (case hn => omega)
          all_goals skip
          intro g2 cap2 w9 hst
          obtain ⟨z5, z6, z7, z8⟩ := HZ.out _ hst.keep
          refine hK.out _ _ ⟨HS.out _ (HSM.out _ (by repeat (first | with_reducible exact hst.keep | with_reducible exact Kept.refl _ _ | with_reducible refine Kept.drew ?_ | with_reducible refine Kept.alloc ?_ _))), fun _ => HZ.out _ (by repeat (first | with_reducible exact hst.keep | with_reducible exact Kept.refl _ _ | with_reducible refine Kept.drew ?_ | with_reducible refine Kept.alloc ?_ _))⟩ (fun hH => ?_)
          clear hK K
          (try simp only [Act.put])
          refine wpT_ready (rs := [15]) (by kernel_rfl) (by simp) ?_
          refine AllT.cons rfl (fun K hK => ?_) AllT.nil
          clear hH
          go_simp
          refine hK.out _ _ ⟨HS.out _ (by repeat (first | with_reducible exact HSM.out _ hst.keep | with_reducible refine Kept.drew ?_ | with_reducible refine Kept.alloc ?_ _ | refine Kept.setCell ?_ (Or.inr (by simp)) _)), fun h => absurd h (by decide)⟩ (fun hH => ?_)
          clear hK K
          (try simp only [Act.put, List.setIfInBounds_toArray, List.set_cons_zero, List.set_cons_succ])
          refine wpT_takeC (i := 16) (v := ?_) rfl (by kernel_rfl) (by kernel_rfl) (by kernel_rfl) (by kernel_rfl) (by kernel_rfl) (fun _ _ _ h => h) (Or.inl ⟨by rfl, ?_⟩) (by assumption) ?_
          rotate_left 1
          · intro W hSw
            (try dsimp only at hSw)
            go_simp
            (try with_reducible rfl)
          (try simp only [Act.put, List.setIfInBounds_toArray])
          refine wpT_ready (rs := [17]) (by kernel_rfl) (by simp) ?_
          refine AllT.cons rfl (fun K hK => ?_) AllT.nil
          clear hH
          go_simp
          refine hK.out _ _ ⟨HS.out _ (by repeat (first | with_reducible exact HSM.out _ hst.keep | with_reducible refine Kept.drew ?_ | with_reducible refine Kept.alloc ?_ _ | refine Kept.setCell ?_ (Or.inr (by simp)) _)), fun h => absurd h (by decide)⟩ (fun hH => ?_)
          clear hK K
          (try simp only [Act.put, List.setIfInBounds_toArray, List.set_cons_zero, List.set_cons_succ])
          refine wpT_done (by kernel_rfl) ?_ _
          refine NoPanic.normal ?_
          have hput := put_round (y := (⟨k', i', g', r', s', keys', kids'⟩ : Nd)) hst rfl HB.out HOO.out.symm hNO hK HOW.out HFL.out (HND.out.kept hK (ltkB (Nat.le_trans hN hK0.size) (by simp))) hsz HSZ.out
          rw [← HPJ.out] at hput
          have HPU := Lib.hid hput; clear hput hst
          go_wp2_with fail
          exact ⟨⟨j + 1, S ++ [L[j]], _, _, _, by go_num, rfl, by omega, HPU.out.1, HPU.out.2.1, HPU.out.2.2, by rw [take_more hlt]; exact HQ.out⟩, by simp [intOf]; omega⟩
    · have hjl : j = L.length := by omega
      subst hjl
      rw [List.take_length] at hpi
      have hsl : S.length ≤ L.length + 1 := hpi.len
      have HOb := Lib.hid hOb; have HOut := Lib.hid hout; have HPI := Lib.hid hpi; clear hOb hout hpi hXr
      cases done
      · go_wp2_with fail
        have hOb := HOb.out; have hout := HOut.out
        obtain ⟨hkr, ⟨cs, hir, hfl⟩, hne, hszS⟩ := hout
        obtain ⟨ak, ck, hvk⟩ := own_form hkr
        obtain ⟨ai, ci, hvi⟩ := own_form hir
        have hown : ∀ b, vk.ownBlock = some b ∨ vi.ownBlock = some b → O + 1 ≤ b := fun b hb => by
          rcases hb with hb | hb
          · exact (ownsRow_lt hkr hb).2
          · exact (ownsRow_lt hir hb).2
        have hOl := lt_of_block hOb
        have hZ : ∀ W, Kept (vk.ownBlock.toList ++ vi.ownBlock.toList) wr W → W.cell? ⟨O, 5, none⟩ = some (.slice ak S.length ck) ∧ W.cell? ⟨O, 6, none⟩ = some (.slice ai S.length ci) ∧ W.frozen? ⟨O, 5, none⟩ = false ∧ W.frozen? ⟨O, 6, none⟩ = false := fun W hW => by
          have hb := hW.block O hOl (fun hm => by have := hown O (by simpa using hm); omega)
          obtain ⟨⟨_, _, _, _, _, y5, y6⟩, _, _, _, _, _, q5, q6⟩ := seven hOb
          rw [hvk] at y5
          rw [hvi] at y6
          exact ⟨(World.cell?_of_block hb).trans y5, (World.cell?_of_block hb).trans y6, (World.frozen?_of_block hb).trans q5, (World.frozen?_of_block hb).trans q6⟩
        have hSM : ∀ W, Kept (vk.ownBlock.toList ++ vi.ownBlock.toList) wr W → Kept (O :: (vk.ownBlock.toList ++ vi.ownBlock.toList)) wr W := fun W h => h.mono fun x hx _ => List.mem_cons_of_mem _ hx
        have hE : ∀ W, Kept (O :: (vk.ownBlock.toList ++ vi.ownBlock.toList)) wr W → ∀ b p, b < O → W.cell? ⟨b, p, none⟩ = w0.cell? ⟨b, p, none⟩ := fun W hW b p hb => by
          have hin : ∀ x ∈ O :: (vk.ownBlock.toList ++ vi.ownBlock.toList), O ≤ x := fun x hx => by
            rcases List.mem_cons.1 hx with h | h
            · omega
            · have := hown x (by simpa using h); omega
          exact (hW.cell (by omega) fun hm => by have := hin _ hm; omega).trans (hK.cell (by have := HOO.out; omega) (by simp))
        have HSM := Lib.hid hSM; have HZ := Lib.hid hZ; have HE := Lib.hid hE; have HOW := Lib.hid hown; have HSZ := Lib.hid hszS; have HFL := Lib.hid hfl; have HB := Lib.hid hOb
        have HVK := Lib.hid hvk; have HVI := Lib.hid hvi; clear hvk hvi hSM hZ hE hown hszS hfl
        have hst := Rg.start (.string key) [.int .i64 y.k, .int .i64 y.i, .int .i64 y.g, .float .f64 y.r, .string y.s, .slice kb y.keys.length kd, .slice ab y.kids.len capb] hkr hir hne (by omega : O + 1 ≤ wr.heap.size)
        have hS : ∀ W, Kept (O :: (vk.ownBlock.toList ++ vi.ownBlock.toList)) wr W → (W.cell? ⟨w.heap.size + 1, 0, none⟩ = some (.int .i64 y.k) ∧ W.cell? ⟨w.heap.size + 1, 1, none⟩ = some (.int .i64 y.i) ∧ W.cell? ⟨w.heap.size + 1, 2, none⟩ = some (.int .i64 y.g) ∧ W.cell? ⟨w.heap.size + 1, 3, none⟩ = some (.float .f64 y.r) ∧
            W.cell? ⟨w.heap.size + 1, 4, none⟩ = some (.string y.s) ∧ W.cell? ⟨w.heap.size + 1, 5, none⟩ = some (.slice kb y.keys.length kd) ∧ W.cell? ⟨w.heap.size + 1, 6, none⟩ = some (.slice ab y.kids.len capb)) := fun W hW => by
          have e := HE.out W hW
          obtain ⟨⟨d0, d1, d2, d3, d4, d5, d6⟩, _⟩ := seven HV.out
          exact ⟨(e _ _ (by omega)).trans d0, (e _ _ (by omega)).trans d1, (e _ _ (by omega)).trans d2, (e _ _ (by omega)).trans d3, (e _ _ (by omega)).trans d4, (e _ _ (by omega)).trans d5, (e _ _ (by omega)).trans d6⟩
        have HS := Lib.hid hS; clear hS hkr hir hne hOb
        refine wp_region_noPanic ?_
        refine wp_region_T (C := fun W => W.cell? ⟨w.heap.size + 1, 0, none⟩ = some (.int .i64 y.k) ∧ W.cell? ⟨w.heap.size + 1, 1, none⟩ = some (.int .i64 y.i) ∧ W.cell? ⟨w.heap.size + 1, 2, none⟩ = some (.int .i64 y.g) ∧ W.cell? ⟨w.heap.size + 1, 3, none⟩ = some (.float .f64 y.r) ∧
            W.cell? ⟨w.heap.size + 1, 4, none⟩ = some (.string y.s) ∧ W.cell? ⟨w.heap.size + 1, 5, none⟩ = some (.slice kb y.keys.length kd) ∧ W.cell? ⟨w.heap.size + 1, 6, none⟩ = some (.slice ab y.kids.len capb))
          (D := fun W => W.cell? ⟨O, 5, none⟩ = some (.slice ak S.length ck) ∧ W.cell? ⟨O, 6, none⟩ = some (.slice ai S.length ci) ∧ W.frozen? ⟨O, 5, none⟩ = false ∧ W.frozen? ⟨O, 6, none⟩ = false) (st := 11) (by kernel_rfl)
          ⟨HS.out _ (Kept.refl _ _).drew, fun _ => HZ.out _ (Kept.refl _ _).drew⟩ (fun hH => ?_)
        refine wpT_takeC (i := 0) (v := ?_) rfl (by kernel_rfl) (by kernel_rfl) (by kernel_rfl) (by kernel_rfl) (by kernel_rfl) (fun _ _ _ h => h) (Or.inl ⟨by rfl, ?_⟩) (by assumption) ?_
        rotate_left 1
        · intro W hSw
          (try dsimp only at hSw)
          go_simp
          (try with_reducible rfl)
        (try simp only [Act.put, List.setIfInBounds_toArray])
        refine wpT_takeD (i := 1) (v := ?_) rfl (by kernel_rfl) (by kernel_rfl) (by kernel_rfl) (by kernel_rfl) (by kernel_rfl) (fun _ _ _ h => h) (Or.inl ⟨by rfl, ?_⟩) (by assumption) ?_
        rotate_left 1
        · intro W hSw
          (try dsimp only at hSw)
          go_simp
          (try with_reducible rfl)
        (try simp only [Act.put])
        refine wpT_takeC (i := 2) (v := ?_) rfl (by kernel_rfl) (by kernel_rfl) (by kernel_rfl) (by kernel_rfl) (by kernel_rfl) (fun _ _ _ h => h) (Or.inl ⟨by rfl, ?_⟩) (by assumption) ?_
        rotate_left 1
        · intro W hSw
          (try dsimp only at hSw)
          go_simp
          (try with_reducible rfl)
        (try simp only [Act.put])
        refine wpT_takeC (i := 5) (v := ?_) rfl (by kernel_rfl) (by kernel_rfl) (by kernel_rfl) (by kernel_rfl) (by kernel_rfl) (fun _ _ _ h => h) (Or.inl ⟨by rfl, ?_⟩) (by assumption) ?_
        rotate_left 1
        · intro W hSw
          (try dsimp only at hSw)
          go_simp
          (try with_reducible rfl)
        (try simp only [Act.put])
        refine wpT_takeD (i := 6) (v := ?_) rfl (by kernel_rfl) (by kernel_rfl) (by kernel_rfl) (by kernel_rfl) (by kernel_rfl) (fun _ _ _ h => h) (Or.inl ⟨by rfl, ?_⟩) (by assumption) ?_
        rotate_left 1
        · intro W hSw
          (try dsimp only at hSw)
          go_simp
          (try with_reducible rfl)
        (try simp only [Act.put])
        refine wpT_takeC (i := 7) (v := ?_) rfl (by kernel_rfl) (by kernel_rfl) (by kernel_rfl) (by kernel_rfl) (by kernel_rfl) (fun _ _ _ h => h) (Or.inl ⟨by rfl, ?_⟩) (by assumption) ?_
        rotate_left 1
        · intro W hSw
          (try dsimp only at hSw)
          go_simp
          (try with_reducible rfl)
        (try simp only [Act.put])
        refine wpT_ready (rs := [3, 8]) (by kernel_rfl) (by simp) ?_
        refine AllT.cons rfl (fun K hK => ?_) (AllT.cons rfl (fun K hK => ?_) AllT.nil)
        · skip
          clear hH
          go_simp
          refine hK.out _ _ ⟨HS.out _ (HSM.out _ (by repeat (first | with_reducible exact hst.keep | with_reducible exact Kept.refl _ _ | with_reducible refine Kept.drew ?_ | with_reducible refine Kept.alloc ?_ _))), fun _ => HZ.out _ (by repeat (first | with_reducible exact hst.keep | with_reducible exact Kept.refl _ _ | with_reducible refine Kept.drew ?_ | with_reducible refine Kept.alloc ?_ _))⟩ (fun hH => ?_)
          clear hK K
          (try simp only [Act.put, List.setIfInBounds_toArray, List.set_cons_zero, List.set_cons_succ])
          refine wpT_ready (rs := [4, 8]) (by kernel_rfl) (by simp) ?_
          refine AllT.cons rfl (fun K hK => ?_) (AllT.cons rfl (fun K hK => ?_) AllT.nil)
          · skip
            clear hH
            apply stepK
            (case hgd => rfl)
            (case ho => rfl)
            (case hR => (repeat (first | with_reducible exact hst | with_reducible apply Rg.drew | apply Rg.allocK | apply Rg.allocI)))
            (case hs => (rw [HVK.out]; rfl))
            (case hx => rfl)
            (case hb => simp)
            (case h1 => rfl)
            (case hn => omega)
            all_goals skip
            intro g1 cap1 w9 hst
            refine hK.out _ _ ⟨HS.out _ (HSM.out _ (by repeat (first | with_reducible exact hst.keep | with_reducible exact Kept.refl _ _ | with_reducible refine Kept.drew ?_ | with_reducible refine Kept.alloc ?_ _))), fun _ => HZ.out _ (by repeat (first | with_reducible exact hst.keep | with_reducible exact Kept.refl _ _ | with_reducible refine Kept.drew ?_ | with_reducible refine Kept.alloc ?_ _))⟩ (fun hH => ?_)
            clear hK K
            (try simp only [Act.put, List.setIfInBounds_toArray])
            refine wpT_takeC (i := 10) (v := ?_) rfl (by kernel_rfl) (by kernel_rfl) (by kernel_rfl) (by kernel_rfl) (by kernel_rfl) (fun _ _ _ h => h) (Or.inl ⟨by rfl, ?_⟩) (by assumption) ?_
            rotate_left 1
            · intro W hSw
              (try dsimp only at hSw)
              go_simp
              (try with_reducible rfl)
            (try simp only [Act.put])
            refine wpT_ready (rs := [8]) (by kernel_rfl) (by simp) ?_
            refine AllT.cons rfl (fun K hK => ?_) AllT.nil
            clear hH
            go_simp
            refine hK.out _ _ ⟨HS.out _ (HSM.out _ (by repeat (first | with_reducible exact hst.keep | with_reducible exact Kept.refl _ _ | with_reducible refine Kept.drew ?_ | with_reducible refine Kept.alloc ?_ _))), fun _ => HZ.out _ (by repeat (first | with_reducible exact hst.keep | with_reducible exact Kept.refl _ _ | with_reducible refine Kept.drew ?_ | with_reducible refine Kept.alloc ?_ _))⟩ (fun hH => ?_)
            clear hK K
            (try simp only [Act.put, List.setIfInBounds_toArray, List.set_cons_zero, List.set_cons_succ])
            refine wpT_ready (rs := [9]) (by kernel_rfl) (by simp) ?_
            refine AllT.cons rfl (fun K hK => ?_) AllT.nil
            clear hH
            apply stepI
            (case hgd => rfl)
            (case ho => rfl)
            (case hR => (repeat (first | with_reducible exact hst | with_reducible apply Rg.drew | apply Rg.allocK | apply Rg.allocI)))
            (case hs => (rw [HVI.out]; rfl))
            (case hx => rfl)
            (case hb => simp)
            (case hl => rfl)
            (case h1 => simp [Value.oneCell'])
            (case hn => omega)
            all_goals skip
            intro g2 cap2 w9 hst
            obtain ⟨z5, z6, z7, z8⟩ := HZ.out _ hst.keep
            refine hK.out _ _ ⟨HS.out _ (HSM.out _ (by repeat (first | with_reducible exact hst.keep | with_reducible exact Kept.refl _ _ | with_reducible refine Kept.drew ?_ | with_reducible refine Kept.alloc ?_ _))), fun _ => HZ.out _ (by repeat (first | with_reducible exact hst.keep | with_reducible exact Kept.refl _ _ | with_reducible refine Kept.drew ?_ | with_reducible refine Kept.alloc ?_ _))⟩ (fun hH => ?_)
            clear hK K
            (try simp only [Act.put, List.setIfInBounds_toArray])
            refine wpT_ready (rs := [11]) (by kernel_rfl) (by simp) ?_
            refine AllT.cons rfl (fun K hK => ?_) AllT.nil
            clear hH
            go_simp
            refine hK.out _ _ ⟨HS.out _ (by repeat (first | with_reducible exact HSM.out _ hst.keep | with_reducible refine Kept.drew ?_ | with_reducible refine Kept.alloc ?_ _ | refine Kept.setCell ?_ (Or.inr (by simp)) _)), fun h => absurd h (by decide)⟩ (fun hH => ?_)
            clear hK K
            (try simp only [Act.put, List.setIfInBounds_toArray, List.set_cons_zero, List.set_cons_succ])
            refine wpT_takeC (i := 12) (v := ?_) rfl (by kernel_rfl) (by kernel_rfl) (by kernel_rfl) (by kernel_rfl) (by kernel_rfl) (fun _ _ _ h => h) (Or.inl ⟨by rfl, ?_⟩) (by assumption) ?_
            rotate_left 1
            · intro W hSw
              (try dsimp only at hSw)
              go_simp
              (try with_reducible rfl)
            (try simp only [Act.put, List.setIfInBounds_toArray])
            refine wpT_ready (rs := [13]) (by kernel_rfl) (by simp) ?_
            refine AllT.cons rfl (fun K hK => ?_) AllT.nil
            clear hH
            go_simp
            refine hK.out _ _ ⟨HS.out _ (by repeat (first | with_reducible exact HSM.out _ hst.keep | with_reducible refine Kept.drew ?_ | with_reducible refine Kept.alloc ?_ _ | refine Kept.setCell ?_ (Or.inr (by simp)) _)), fun h => absurd h (by decide)⟩ (fun hH => ?_)
            clear hK K
            (try simp only [Act.put, List.setIfInBounds_toArray, List.set_cons_zero, List.set_cons_succ])
            refine wpT_done (by kernel_rfl) ?_ _
            refine NoPanic.normal ?_
            have hput := put_round (y := y) hst rfl HB.out HOO.out.symm hNO hK HOW.out HFL.out (HY.out.kept hK (ltkB (Nat.le_trans hN hK0.size) (by simp))) HKZ.out HSZ.out
            obtain ⟨W2, hW2⟩ : ∃ W2, W2 = (w9.setCell ⟨O, 5, none⟩ (.slice (some ⟨g1, 0, none⟩) (S.length + 1) cap1)).setCell ⟨O, 6, none⟩ (.slice (some ⟨g2, 0, none⟩) (S.length + 1) cap2) := ⟨_, rfl⟩
            obtain ⟨vk2, hvk2⟩ : ∃ v, v = Value.slice (some ⟨g1, 0, none⟩) (S.length + 1) cap1 := ⟨_, rfl⟩
            obtain ⟨vi2, hvi2⟩ : ∃ v, v = Value.slice (some ⟨g2, 0, none⟩) (S.length + 1) cap2 := ⟨_, rfl⟩
            obtain ⟨S2, hS2⟩ : ∃ S2, S2 = S ++ [(key, y)] := ⟨_, rfl⟩
            have hsl2 : S2.length ≤ L.length + 2 := by rw [hS2, List.length_append, List.length_singleton]; omega
            rw [← hW2, ← hvk2, ← hvi2, ← hS2] at hput
            obtain ⟨hK2, hOb2, hout2⟩ := hput
            rw [← hW2]
            have HOb2 := Lib.hid hOb2; have HOut2 := Lib.hid hout2; have HS2 := Lib.hid hS2
            clear hW2 hvk2 hvi2 hS2 hOb2 hout2 hst z5 z6 z7 z8
            have hF : PutR (Di.of L) key y (Di.of S2) := by rw [HS2.out]; exact HPI.out.last HD.out HKY.out HYO.out
            have HF := Lib.hid hF; clear hF
            have hOb2 := HOb2.out; have hout2 := HOut2.out
            obtain ⟨ka9, kc9, a9, cap9, rfl, rfl, hnode⟩ := hout2.out (by omega)
            have hRr := (hK2.block (w.heap.size + 1 + 1) (lt_of_block HRc.out) (by simp)).trans HRc.out
            obtain ⟨⟨y0, y1, y2, y3, y4, y5, y6⟩, _⟩ := seven hOb2
            obtain ⟨⟨r0, r1', r2, r3, r4, r5, r6⟩, q0, q1, q2, q3, q4, q5, q6⟩ := seven hRr
            have hKw : Kept [] w W2 := Kept.trans hK0 hK2 (by simp) (by simp)
            have HN := Lib.hid hnode; clear hnode hout2 hOb2 hRr
            go_wp2_with fail
            have hsz1 := lt_of_block HRc.out
            have hoff : ∀ n : Nat, (⟨w.heap.size + 1 + 1, 0, none⟩ : Addr).add n = ⟨w.heap.size + 1 + 1, n, none⟩ := fun n => addr0 _ _
            refine bodyPost_ret (v := .agg #[.int .i64 8, .int .i64 0, .int .i64 0, .float .f64 0, .string ⟨#[]⟩, .slice ka9 S2.length kc9, .slice a9 S2.length cap9]) (by simp [results, Tryz.results34, go_sem, hoff, r0, r1', r2, r3, r4, r5, r6]) rfl ?_
            have hKx := kept7 (b := w.heap.size + 1 + 1) (Kept.refl [w.heap.size + 1 + 1] W2) (.inr (by simp)) (.int .i64 8) (.int .i64 0) (.int .i64 0) (.float .f64 0) (.string ⟨#[]⟩) (.slice ka9 S2.length kc9) (.slice a9 S2.length cap9)
            refine ⟨kept7 hKw (.inl (by omega)) _ _ _ _ _ _ _, Di.of S2, ka9, kc9, a9, cap9, by simp [Di.of, F.of_len], (HN.out.kept hKx fun b hb => ?_).mono fun b hb => ?_, HF.out⟩
            · have := HOO.out
              have := hKw.size
              rcases hb with h | ⟨h1, h2⟩
              · exact ⟨by omega, by simp; omega⟩
              · exact ⟨h2, by simp; omega⟩
            · have := HOO.out
              rcases hb with h | ⟨h1, h2⟩
              · exact .inl h
              · exact .inr ⟨by have := hK0.size; omega, Nat.lt_of_lt_of_le h2 hKx.size⟩
          · skip
            clear hH
            go_simp
            refine hK.out _ _ ⟨HS.out _ (HSM.out _ (by repeat (first | with_reducible exact hst.keep | with_reducible exact Kept.refl _ _ | with_reducible refine Kept.drew ?_ | with_reducible refine Kept.alloc ?_ _))), fun _ => HZ.out _ (by repeat (first | with_reducible exact hst.keep | with_reducible exact Kept.refl _ _ | with_reducible refine Kept.drew ?_ | with_reducible refine Kept.alloc ?_ _))⟩ (fun hH => ?_)
            clear hK K
            (try simp only [Act.put, List.setIfInBounds_toArray, List.set_cons_zero, List.set_cons_succ])
            refine wpT_ready (rs := [4]) (by kernel_rfl) (by simp) ?_
            refine AllT.cons rfl (fun K hK => ?_) AllT.nil
            clear hH
            apply stepK
            (case hgd => rfl)
            (case ho => rfl)
            (case hR => (repeat (first | with_reducible exact hst | with_reducible apply Rg.drew | apply Rg.allocK | apply Rg.allocI)))
            (case hs => (rw [HVK.out]; rfl))
            (case hx => rfl)
            (case hb => simp)
            (case h1 => rfl)
            (case hn => omega)
            all_goals skip
            intro g1 cap1 w9 hst
            refine hK.out _ _ ⟨HS.out _ (HSM.out _ (by repeat (first | with_reducible exact hst.keep | with_reducible exact Kept.refl _ _ | with_reducible refine Kept.drew ?_ | with_reducible refine Kept.alloc ?_ _))), fun _ => HZ.out _ (by repeat (first | with_reducible exact hst.keep | with_reducible exact Kept.refl _ _ | with_reducible refine Kept.drew ?_ | with_reducible refine Kept.alloc ?_ _))⟩ (fun hH => ?_)
            clear hK K
            (try simp only [Act.put, List.setIfInBounds_toArray])
            refine wpT_takeC (i := 10) (v := ?_) rfl (by kernel_rfl) (by kernel_rfl) (by kernel_rfl) (by kernel_rfl) (by kernel_rfl) (fun _ _ _ h => h) (Or.inl ⟨by rfl, ?_⟩) (by assumption) ?_
            rotate_left 1
            · intro W hSw
              (try dsimp only at hSw)
              go_simp
              (try with_reducible rfl)
            (try simp only [Act.put])
            refine wpT_ready (rs := [9]) (by kernel_rfl) (by simp) ?_
            refine AllT.cons rfl (fun K hK => ?_) AllT.nil
            clear hH
            apply stepI
            (case hgd => rfl)
            (case ho => rfl)
            (case hR => (repeat (first | with_reducible exact hst | with_reducible apply Rg.drew | apply Rg.allocK | apply Rg.allocI)))
            (case hs => (rw [HVI.out]; rfl))
            (case hx => rfl)
            (case hb => simp)
            (case hl => rfl)
            (case h1 => simp [Value.oneCell'])
            (case hn => omega)
            all_goals skip
            intro g2 cap2 w9 hst
            obtain ⟨z5, z6, z7, z8⟩ := HZ.out _ hst.keep
            refine hK.out _ _ ⟨HS.out _ (HSM.out _ (by repeat (first | with_reducible exact hst.keep | with_reducible exact Kept.refl _ _ | with_reducible refine Kept.drew ?_ | with_reducible refine Kept.alloc ?_ _))), fun _ => HZ.out _ (by repeat (first | with_reducible exact hst.keep | with_reducible exact Kept.refl _ _ | with_reducible refine Kept.drew ?_ | with_reducible refine Kept.alloc ?_ _))⟩ (fun hH => ?_)
            clear hK K
            (try simp only [Act.put])
            refine wpT_ready (rs := [11]) (by kernel_rfl) (by simp) ?_
            refine AllT.cons rfl (fun K hK => ?_) AllT.nil
            clear hH
            go_simp
            refine hK.out _ _ ⟨HS.out _ (by repeat (first | with_reducible exact HSM.out _ hst.keep | with_reducible refine Kept.drew ?_ | with_reducible refine Kept.alloc ?_ _ | refine Kept.setCell ?_ (Or.inr (by simp)) _)), fun h => absurd h (by decide)⟩ (fun hH => ?_)
            clear hK K
            (try simp only [Act.put, List.setIfInBounds_toArray, List.set_cons_zero, List.set_cons_succ])
            refine wpT_takeC (i := 12) (v := ?_) rfl (by kernel_rfl) (by kernel_rfl) (by kernel_rfl) (by kernel_rfl) (by kernel_rfl) (fun _ _ _ h => h) (Or.inl ⟨by rfl, ?_⟩) (by assumption) ?_
            rotate_left 1
            · intro W hSw
              (try dsimp only at hSw)
              go_simp
              (try with_reducible rfl)
            (try simp only [Act.put, List.setIfInBounds_toArray])
            refine wpT_ready (rs := [13]) (by kernel_rfl) (by simp) ?_
            refine AllT.cons rfl (fun K hK => ?_) AllT.nil
            clear hH
            go_simp
            refine hK.out _ _ ⟨HS.out _ (by repeat (first | with_reducible exact HSM.out _ hst.keep | with_reducible refine Kept.drew ?_ | with_reducible refine Kept.alloc ?_ _ | refine Kept.setCell ?_ (Or.inr (by simp)) _)), fun h => absurd h (by decide)⟩ (fun hH => ?_)
            clear hK K
            (try simp only [Act.put, List.setIfInBounds_toArray, List.set_cons_zero, List.set_cons_succ])
            refine wpT_done (by kernel_rfl) ?_ _
            refine NoPanic.normal ?_
            have hput := put_round (y := y) hst rfl HB.out HOO.out.symm hNO hK HOW.out HFL.out (HY.out.kept hK (ltkB (Nat.le_trans hN hK0.size) (by simp))) HKZ.out HSZ.out
            obtain ⟨W2, hW2⟩ : ∃ W2, W2 = (w9.setCell ⟨O, 5, none⟩ (.slice (some ⟨g1, 0, none⟩) (S.length + 1) cap1)).setCell ⟨O, 6, none⟩ (.slice (some ⟨g2, 0, none⟩) (S.length + 1) cap2) := ⟨_, rfl⟩
            obtain ⟨vk2, hvk2⟩ : ∃ v, v = Value.slice (some ⟨g1, 0, none⟩) (S.length + 1) cap1 := ⟨_, rfl⟩
            obtain ⟨vi2, hvi2⟩ : ∃ v, v = Value.slice (some ⟨g2, 0, none⟩) (S.length + 1) cap2 := ⟨_, rfl⟩
            obtain ⟨S2, hS2⟩ : ∃ S2, S2 = S ++ [(key, y)] := ⟨_, rfl⟩
            have hsl2 : S2.length ≤ L.length + 2 := by rw [hS2, List.length_append, List.length_singleton]; omega
            rw [← hW2, ← hvk2, ← hvi2, ← hS2] at hput
            obtain ⟨hK2, hOb2, hout2⟩ := hput
            rw [← hW2]
            have HOb2 := Lib.hid hOb2; have HOut2 := Lib.hid hout2; have HS2 := Lib.hid hS2
            clear hW2 hvk2 hvi2 hS2 hOb2 hout2 hst z5 z6 z7 z8
            have hF : PutR (Di.of L) key y (Di.of S2) := by rw [HS2.out]; exact HPI.out.last HD.out HKY.out HYO.out
            have HF := Lib.hid hF; clear hF
            have hOb2 := HOb2.out; have hout2 := HOut2.out
            obtain ⟨ka9, kc9, a9, cap9, rfl, rfl, hnode⟩ := hout2.out (by omega)
            have hRr := (hK2.block (w.heap.size + 1 + 1) (lt_of_block HRc.out) (by simp)).trans HRc.out
            obtain ⟨⟨y0, y1, y2, y3, y4, y5, y6⟩, _⟩ := seven hOb2
            obtain ⟨⟨r0, r1', r2, r3, r4, r5, r6⟩, q0, q1, q2, q3, q4, q5, q6⟩ := seven hRr
            have hKw : Kept [] w W2 := Kept.trans hK0 hK2 (by simp) (by simp)
            have HN := Lib.hid hnode; clear hnode hout2 hOb2 hRr
            go_wp2_with fail
            have hsz1 := lt_of_block HRc.out
            have hoff : ∀ n : Nat, (⟨w.heap.size + 1 + 1, 0, none⟩ : Addr).add n = ⟨w.heap.size + 1 + 1, n, none⟩ := fun n => addr0 _ _
            refine bodyPost_ret (v := .agg #[.int .i64 8, .int .i64 0, .int .i64 0, .float .f64 0, .string ⟨#[]⟩, .slice ka9 S2.length kc9, .slice a9 S2.length cap9]) (by simp [results, Tryz.results34, go_sem, hoff, r0, r1', r2, r3, r4, r5, r6]) rfl ?_
            have hKx := kept7 (b := w.heap.size + 1 + 1) (Kept.refl [w.heap.size + 1 + 1] W2) (.inr (by simp)) (.int .i64 8) (.int .i64 0) (.int .i64 0) (.float .f64 0) (.string ⟨#[]⟩) (.slice ka9 S2.length kc9) (.slice a9 S2.length cap9)
            refine ⟨kept7 hKw (.inl (by omega)) _ _ _ _ _ _ _, Di.of S2, ka9, kc9, a9, cap9, by simp [Di.of, F.of_len], (HN.out.kept hKx fun b hb => ?_).mono fun b hb => ?_, HF.out⟩
            · have := HOO.out
              have := hKw.size
              rcases hb with h | ⟨h1, h2⟩
              · exact ⟨by omega, by simp; omega⟩
              · exact ⟨h2, by simp; omega⟩
            · have := HOO.out
              rcases hb with h | ⟨h1, h2⟩
              · exact .inl h
              · exact .inr ⟨by have := hK0.size; omega, Nat.lt_of_lt_of_le h2 hKx.size⟩
        · skip
          clear hH
          go_simp
          refine hK.out _ _ ⟨HS.out _ (HSM.out _ (by repeat (first | with_reducible exact hst.keep | with_reducible exact Kept.refl _ _ | with_reducible refine Kept.drew ?_ | with_reducible refine Kept.alloc ?_ _))), fun _ => HZ.out _ (by repeat (first | with_reducible exact hst.keep | with_reducible exact Kept.refl _ _ | with_reducible refine Kept.drew ?_ | with_reducible refine Kept.alloc ?_ _))⟩ (fun hH => ?_)
          clear hK K
          (try simp only [Act.put, List.setIfInBounds_toArray, List.set_cons_zero, List.set_cons_succ])
          refine wpT_ready (rs := [3]) (by kernel_rfl) (by simp) ?_
          refine AllT.cons rfl (fun K hK => ?_) AllT.nil
          clear hH
          go_simp
          refine hK.out _ _ ⟨HS.out _ (HSM.out _ (by repeat (first | with_reducible exact hst.keep | with_reducible exact Kept.refl _ _ | with_reducible refine Kept.drew ?_ | with_reducible refine Kept.alloc ?_ _))), fun _ => HZ.out _ (by repeat (first | with_reducible exact hst.keep | with_reducible exact Kept.refl _ _ | with_reducible refine Kept.drew ?_ | with_reducible refine Kept.alloc ?_ _))⟩ (fun hH => ?_)
          clear hK K
          (try simp only [Act.put, List.setIfInBounds_toArray, List.set_cons_zero, List.set_cons_succ])
          refine wpT_ready (rs := [4]) (by kernel_rfl) (by simp) ?_
          refine AllT.cons rfl (fun K hK => ?_) AllT.nil
          clear hH
          apply stepK
          (case hgd => rfl)
          (case ho => rfl)
          (case hR => (repeat (first | with_reducible exact hst | with_reducible apply Rg.drew | apply Rg.allocK | apply Rg.allocI)))
          (case hs => (rw [HVK.out]; rfl))
          (case hx => rfl)
          (case hb => simp)
          (case h1 => rfl)
          (case hn => omega)
          all_goals skip
          intro g1 cap1 w9 hst
          refine hK.out _ _ ⟨HS.out _ (HSM.out _ (by repeat (first | with_reducible exact hst.keep | with_reducible exact Kept.refl _ _ | with_reducible refine Kept.drew ?_ | with_reducible refine Kept.alloc ?_ _))), fun _ => HZ.out _ (by repeat (first | with_reducible exact hst.keep | with_reducible exact Kept.refl _ _ | with_reducible refine Kept.drew ?_ | with_reducible refine Kept.alloc ?_ _))⟩ (fun hH => ?_)
          clear hK K
          (try simp only [Act.put, List.setIfInBounds_toArray])
          refine wpT_takeC (i := 10) (v := ?_) rfl (by kernel_rfl) (by kernel_rfl) (by kernel_rfl) (by kernel_rfl) (by kernel_rfl) (fun _ _ _ h => h) (Or.inl ⟨by rfl, ?_⟩) (by assumption) ?_
          rotate_left 1
          · intro W hSw
            (try dsimp only at hSw)
            go_simp
            (try with_reducible rfl)
          (try simp only [Act.put])
          refine wpT_ready (rs := [9]) (by kernel_rfl) (by simp) ?_
          refine AllT.cons rfl (fun K hK => ?_) AllT.nil
          clear hH
          apply stepI
          (case hgd => rfl)
          (case ho => rfl)
          (case hR => (repeat (first | with_reducible exact hst | with_reducible apply Rg.drew | apply Rg.allocK | apply Rg.allocI)))
          (case hs => (rw [HVI.out]; rfl))
          (case hx => rfl)
          (case hb => simp)
          (case hl => rfl)
          (case h1 => simp [Value.oneCell'])
          (case hn => omega)
          all_goals skip
          intro g2 cap2 w9 hst
          obtain ⟨z5, z6, z7, z8⟩ := HZ.out _ hst.keep
          refine hK.out _ _ ⟨HS.out _ (HSM.out _ (by repeat (first | with_reducible exact hst.keep | with_reducible exact Kept.refl _ _ | with_reducible refine Kept.drew ?_ | with_reducible refine Kept.alloc ?_ _))), fun _ => HZ.out _ (by repeat (first | with_reducible exact hst.keep | with_reducible exact Kept.refl _ _ | with_reducible refine Kept.drew ?_ | with_reducible refine Kept.alloc ?_ _))⟩ (fun hH => ?_)
          clear hK K
          (try simp only [Act.put])
          refine wpT_ready (rs := [11]) (by kernel_rfl) (by simp) ?_
          refine AllT.cons rfl (fun K hK => ?_) AllT.nil
          clear hH
          go_simp
          refine hK.out _ _ ⟨HS.out _ (by repeat (first | with_reducible exact HSM.out _ hst.keep | with_reducible refine Kept.drew ?_ | with_reducible refine Kept.alloc ?_ _ | refine Kept.setCell ?_ (Or.inr (by simp)) _)), fun h => absurd h (by decide)⟩ (fun hH => ?_)
          clear hK K
          (try simp only [Act.put, List.setIfInBounds_toArray, List.set_cons_zero, List.set_cons_succ])
          refine wpT_takeC (i := 12) (v := ?_) rfl (by kernel_rfl) (by kernel_rfl) (by kernel_rfl) (by kernel_rfl) (by kernel_rfl) (fun _ _ _ h => h) (Or.inl ⟨by rfl, ?_⟩) (by assumption) ?_
          rotate_left 1
          · intro W hSw
            (try dsimp only at hSw)
            go_simp
            (try with_reducible rfl)
          (try simp only [Act.put, List.setIfInBounds_toArray])
          refine wpT_ready (rs := [13]) (by kernel_rfl) (by simp) ?_
          refine AllT.cons rfl (fun K hK => ?_) AllT.nil
          clear hH
          go_simp
          refine hK.out _ _ ⟨HS.out _ (by repeat (first | with_reducible exact HSM.out _ hst.keep | with_reducible refine Kept.drew ?_ | with_reducible refine Kept.alloc ?_ _ | refine Kept.setCell ?_ (Or.inr (by simp)) _)), fun h => absurd h (by decide)⟩ (fun hH => ?_)
          clear hK K
          (try simp only [Act.put, List.setIfInBounds_toArray, List.set_cons_zero, List.set_cons_succ])
          refine wpT_done (by kernel_rfl) ?_ _
          refine NoPanic.normal ?_
          have hput := put_round (y := y) hst rfl HB.out HOO.out.symm hNO hK HOW.out HFL.out (HY.out.kept hK (ltkB (Nat.le_trans hN hK0.size) (by simp))) HKZ.out HSZ.out
          obtain ⟨W2, hW2⟩ : ∃ W2, W2 = (w9.setCell ⟨O, 5, none⟩ (.slice (some ⟨g1, 0, none⟩) (S.length + 1) cap1)).setCell ⟨O, 6, none⟩ (.slice (some ⟨g2, 0, none⟩) (S.length + 1) cap2) := ⟨_, rfl⟩
          obtain ⟨vk2, hvk2⟩ : ∃ v, v = Value.slice (some ⟨g1, 0, none⟩) (S.length + 1) cap1 := ⟨_, rfl⟩
          obtain ⟨vi2, hvi2⟩ : ∃ v, v = Value.slice (some ⟨g2, 0, none⟩) (S.length + 1) cap2 := ⟨_, rfl⟩
          obtain ⟨S2, hS2⟩ : ∃ S2, S2 = S ++ [(key, y)] := ⟨_, rfl⟩
          have hsl2 : S2.length ≤ L.length + 2 := by rw [hS2, List.length_append, List.length_singleton]; omega
          rw [← hW2, ← hvk2, ← hvi2, ← hS2] at hput
          obtain ⟨hK2, hOb2, hout2⟩ := hput
          rw [← hW2]
          have HOb2 := Lib.hid hOb2; have HOut2 := Lib.hid hout2; have HS2 := Lib.hid hS2
          clear hW2 hvk2 hvi2 hS2 hOb2 hout2 hst z5 z6 z7 z8
          have hF : PutR (Di.of L) key y (Di.of S2) := by rw [HS2.out]; exact HPI.out.last HD.out HKY.out HYO.out
          have HF := Lib.hid hF; clear hF
          have hOb2 := HOb2.out; have hout2 := HOut2.out
          obtain ⟨ka9, kc9, a9, cap9, rfl, rfl, hnode⟩ := hout2.out (by omega)
          have hRr := (hK2.block (w.heap.size + 1 + 1) (lt_of_block HRc.out) (by simp)).trans HRc.out
          obtain ⟨⟨y0, y1, y2, y3, y4, y5, y6⟩, _⟩ := seven hOb2
          obtain ⟨⟨r0, r1', r2, r3, r4, r5, r6⟩, q0, q1, q2, q3, q4, q5, q6⟩ := seven hRr
          have hKw : Kept [] w W2 := Kept.trans hK0 hK2 (by simp) (by simp)
          have HN := Lib.hid hnode; clear hnode hout2 hOb2 hRr
          go_wp2_with fail
          have hsz1 := lt_of_block HRc.out
          have hoff : ∀ n : Nat, (⟨w.heap.size + 1 + 1, 0, none⟩ : Addr).add n = ⟨w.heap.size + 1 + 1, n, none⟩ := fun n => addr0 _ _
          refine bodyPost_ret (v := .agg #[.int .i64 8, .int .i64 0, .int .i64 0, .float .f64 0, .string ⟨#[]⟩, .slice ka9 S2.length kc9, .slice a9 S2.length cap9]) (by simp [results, Tryz.results34, go_sem, hoff, r0, r1', r2, r3, r4, r5, r6]) rfl ?_
          have hKx := kept7 (b := w.heap.size + 1 + 1) (Kept.refl [w.heap.size + 1 + 1] W2) (.inr (by simp)) (.int .i64 8) (.int .i64 0) (.int .i64 0) (.float .f64 0) (.string ⟨#[]⟩) (.slice ka9 S2.length kc9) (.slice a9 S2.length cap9)
          refine ⟨kept7 hKw (.inl (by omega)) _ _ _ _ _ _ _, Di.of S2, ka9, kc9, a9, cap9, by simp [Di.of, F.of_len], (HN.out.kept hKx fun b hb => ?_).mono fun b hb => ?_, HF.out⟩
          · have := HOO.out
            have := hKw.size
            rcases hb with h | ⟨h1, h2⟩
            · exact ⟨by omega, by simp; omega⟩
            · exact ⟨h2, by simp; omega⟩
          · have := HOO.out
            rcases hb with h | ⟨h1, h2⟩
            · exact .inl h
            · exact .inr ⟨by have := hK0.size; omega, Nat.lt_of_lt_of_le h2 hKx.size⟩
      · have hF : PutR (Di.of L) key y (Di.of S) := HPI.out.fin HD.out HKY.out HYO.out
        have HF := Lib.hid hF; clear hF
        have hOb := HOb.out; have hout := HOut.out
        clear HOb HOut
        obtain ⟨ka9, kc9, a9, cap9, rfl, rfl, hnode⟩ := hout.out (by omega)
        have hRr := (hK.block (w.heap.size + 1 + 1) (lt_of_block HRc.out) (by simp)).trans HRc.out
        obtain ⟨⟨y0, y1, y2, y3, y4, y5, y6⟩, _⟩ := seven hOb
        obtain ⟨⟨r0, r1', r2, r3, r4, r5, r6⟩, q0, q1, q2, q3, q4, q5, q6⟩ := seven hRr
        have hKw : Kept [] w wr := Kept.trans hK0 hK (by simp) (by simp)
        have HN := Lib.hid hnode; clear hnode hout hOb hRr
        go_wp2_with fail
        have hsz1 := lt_of_block HRc.out
        have hoff : ∀ n : Nat, (⟨w.heap.size + 1 + 1, 0, none⟩ : Addr).add n = ⟨w.heap.size + 1 + 1, n, none⟩ := fun n => addr0 _ _
        refine bodyPost_ret (v := .agg #[.int .i64 8, .int .i64 0, .int .i64 0, .float .f64 0, .string ⟨#[]⟩, .slice ka9 S.length kc9, .slice a9 S.length cap9]) (by simp [results, Tryz.results34, go_sem, hoff, r0, r1', r2, r3, r4, r5, r6]) rfl ?_
        have hKx := kept7 (b := w.heap.size + 1 + 1) (Kept.refl [w.heap.size + 1 + 1] wr) (.inr (by simp)) (.int .i64 8) (.int .i64 0) (.int .i64 0) (.float .f64 0) (.string ⟨#[]⟩) (.slice ka9 S.length kc9) (.slice a9 S.length cap9)
        refine ⟨kept7 hKw (.inl (by omega)) _ _ _ _ _ _ _, Di.of S, ka9, kc9, a9, cap9, by simp [Di.of, F.of_len], (HN.out.kept hKx fun b hb => ?_).mono fun b hb => ?_, HF.out⟩
        · have := HOO.out
          have := hKw.size
          rcases hb with h | ⟨h1, h2⟩
          · exact ⟨by omega, by simp; omega⟩
          · exact ⟨h2, by simp; omega⟩
        · have := HOO.out
          rcases hb with h | ⟨h1, h2⟩
          · exact .inl h
          · exact .inr ⟨by have := hK0.size; omega, Nat.lt_of_lt_of_le h2 hKx.size⟩
end Go.Proofs.YtfkecmlmnhbmoaaGreatDoor
