import Derived.Test.YtfkecmlmnhbmoaaGreatDoorDs43
import Derived.BigRegion
import Derived.Deep.RegionWith
namespace Go.Proofs.YtfkecmlmnhbmoaaGreatDoor
open Go.RowKit Go.Maps
theorem done17d (d : Di) (op : Int) (key : ByteArray) (y : Nd) (i g : Int) (r : Nat) (s : ByteArray) (N : Bd) (ka : Option Addr) (kc : Nat) (a : Option Addr) (cap : Nat) (kb : Option Addr) (kd : Nat) (ab : Option Addr) (capb : Nat) (w : World) (hd : DiOk d) (hz : Z4 i g r s) (hn : Node (LtB N) w 8 i g r s d.keys d.kids ka kc a cap)
    (hy : Node (LtB N) w y.k y.i y.g y.r y.s y.keys y.kids kb kd ab capb) (hN : N.n ≤ w.heap.size) (hky : Simp key) (hyo : NdOk y) (hop : I64 op) (hlb : d.keys.length ≤ 1000000000000) :
    Calls Tryz.prog 17 #[.agg #[.int .i64 8, .int .i64 i, .int .i64 g, .float .f64 r, .string s, .slice ka d.keys.length kc, .slice a d.kids.len cap], .agg #[.int .i64 op, .string key, .int .i64 y.k, .int .i64 y.i, .int .i64 y.g, .float .f64 y.r, .string y.s, .slice kb y.keys.length kd, .slice ab y.kids.len capb]] w (DoE N d op key y w) := by
  obtain ⟨L, rfl⟩ := Di.ex_of d hd.len
  exact done17 L op key y i g r s N ka kc a cap kb kd ab capb w hd hz hn hy hN hky hyo hop (by simpa [Di.of] using hlb)
structure W5L (ss : List Stp) (d0 : Di) (B A : Nat) (w6 : World) (v8 v9 v54 : Value) (wr : World) : Prop where
  ex : ∃ (j : Nat) (bs : List Bool) (vs : List Nd) (d : Nat → Di) (i g : Int) (r : Nat) (s : ByteArray) (ka : Option Addr) (kc : Nat) (a : Option Addr) (cap : Nat) (G : Nat → Prop),
    v54 = .int .i64 j ∧ j ≤ ss.length ∧ bs.length = j ∧ vs.length = j ∧ d 0 = d0 ∧ Hist ss d (tlf bs) (vlf vs) j ∧ Kept [A] w6 wr ∧ Two (fun _ => True) B A wr v8 v9 bs vs ∧
    wr.heap[A]? = some (.cells #[.int .i64 8, .int .i64 i, .int .i64 g, .float .f64 r, .string s, .slice ka (d j).keys.length kc, .slice a (d j).kids.len cap] 26 (0, 0)) ∧ Z4 i g r s ∧
    Node G wr 8 i g r s (d j).keys (d j).kids ka kc a cap ∧ (∀ x, G x → x < wr.heap.size ∧ x ≠ A ∧ ¬ Own2 v8 v9 x)
set_option maxRecDepth 100000 in
set_option maxHeartbeats 16000000 in
theorem law5 (k i g : Int) (r : Nat) (s : ByteArray) (keys : List ByteArray) (kids : F) (ss : List Stp) (N : Nat) (ka : Option Addr) (kc : Nat) (a : Option Addr) (cap : Nat) (sa : Option Addr) (sc : Nat) (w : World) (hn : Node (Lt N) w k i g r s keys kids ka kc a cap) (hs : StepsIn (Lt N) w sa sc ss) (ht : Tb N w) (hN : N ≤ w.heap.size) :
    Calls Tryz.prog 5 #[.agg #[.int .i64 k, .int .i64 i, .int .i64 g, .float .f64 r, .string s, .slice ka keys.length kc, .slice a kids.len cap], .slice sa ss.length sc] w (L4E w) := by
  obtain ⟨w0, hw0⟩ : ∃ w0, w0 = w.alloc (.cells #[.int .i64 k, .int .i64 i, .int .i64 g, .float .f64 r, .string s, .slice ka keys.length kc, .slice a kids.len cap] 26) := ⟨_, rfl⟩
  have hK0 : Kept [] w w0 := by rw [hw0]; exact (Kept.refl [] w).alloc _
  have hX : w0.heap[w.heap.size]? = some (.cells #[.int .i64 k, .int .i64 i, .int .i64 g, .float .f64 r, .string s, .slice ka keys.length kc, .slice a kids.len cap] 26 (0, 0)) := by rw [hw0]; exact heap_at rfl
  obtain ⟨⟨c0, c1, c2, c3, c4, c5, c6⟩, -⟩ := seven hX
  have hk96 := hn.kids.2.1
  have hlk : kids.len ≤ 140737488351232 := by omega
  have hss120 := hs.2.1
  have hssl : ss.length ≤ 1172812402961 := by omega
  have HN := Lib.hid hn; have HS := Lib.hid hs; have HT := Lib.hid ht; have HX := Lib.hid hX; clear hn hs ht hX hss120
  go_enter Tryz.func5, Tryz.ntmps5
  go_upto_region 1 with fail
  rw [← hw0]
  clear hw0
  go_wp2_with fail
  refine (zfits1 k i g r s keys kids N ka kc a cap w0 (HN.out.kept hK0 (ltk hN (by simp))) (Nat.le_trans hN hK0.size)).mono ?_
  rintro e w1 ⟨⟨b1, rfl, hb1⟩, hK1⟩
  have hK2 : Kept [] w w1 := Kept.trans hK0 hK1 (by simp) (by simp)
  cases b1
  case' false =>
    go_wp2_with fail
    go_ret
    exact ⟨rfl, hK2⟩
  have hlk2 := hb1 rfl
  clear hb1
  by_cases hL : ss.length ≤ 2147483647
  case' neg =>
    go_wp2_with fail
    go_ret
    exact ⟨rfl, hK2⟩
  have hX1 := (hK1.block w.heap.size (lt_of_block HX.out) (by simp)).trans HX.out
  clear c0 c1 c2 c3 c4 c5 c6
  obtain ⟨⟨c0, c1, c2, c3, c4, c5, c6⟩, -⟩ := seven hX1
  have HX1 := Lib.hid hX1; clear hX1
  by_cases hk8 : k = 8
  case' neg =>
    have zk : (k != 8) = true := bne_iff_ne.2 hk8
    clear hk8
    go_wp2_with fail
    go_ret
    exact ⟨rfl, hK2⟩
  subst hk8
  go_wp2_with fail
  refine (nf_node 8 i g r s keys kids N ka kc a cap w1 (HN.out.kept hK2 (ltk hN (by simp))) (HT.out.kept hK2 hN (by simp)) (Nat.le_trans hN hK2.size)).mono ?_
  rintro e w2 ⟨hK3, b2, rfl, hb2⟩
  have hK4 : Kept [] w w2 := Kept.trans hK2 hK3 (by simp) (by simp)
  cases b2
  case' false =>
    go_wp2_with fail
    go_ret
    exact ⟨rfl, hK4⟩
  by_cases h50 : ss.length ≤ 50
  case' neg =>
    go_wp2_with fail
    go_ret
    exact ⟨rfl, hK4⟩
  obtain ⟨⟨hnf1, hnf⟩, hg1, hg⟩ := hb2 rfl
  have hz0 := z4_of hg1
  have hd0 := diok_of hg1 hg hnf1 hnf HN.out
  have hkl : keys.length ≤ 2147483647 := by rw [hg1.len rfl]; exact hlk2
  have HZ0 := Lib.hid hz0; have HD0 := Lib.hid hd0; have HKL := Lib.hid hkl; clear hb2 hnf1 hnf hg1 hg hz0 hd0 hkl
  have hX2 := (hK3.block w.heap.size (lt_of_block HX1.out) (by simp)).trans HX1.out
  clear c0 c1 c2 c3 c4 c5 c6
  obtain ⟨⟨c0, c1, c2, c3, c4, c5, c6⟩, -⟩ := seven hX2
  have HX2 := Lib.hid hX2; clear hX2
  go_wp2_with fail
  refine (fromObj 8 i g r s keys kids N ka kc a cap w2 (HN.out.kept hK4 (ltk hN (by simp))) (HT.out.kept hK4 hN (by simp)) (Nat.le_trans hN hK4.size)).mono ?_
  rintro e w3 ⟨hK5, k3, i3, g3, r3, s3, ka3, nk3, kc3, a3, nd3, cap3, b3, rfl, hb3⟩
  have hK6 : Kept [] w w3 := Kept.trans hK4 hK5 (by simp) (by simp)
  have h3 : ∃ keys3 kids3, nk3 = List.length keys3 ∧ nd3 = F.len kids3 ∧ Node (Fr N w2.heap.size w3.heap.size) w3 k3 i3 g3 r3 s3 keys3 kids3 ka3 kc3 a3 cap3 := by
    cases b3
    · exact hb3.2 rfl
    · obtain ⟨_, _, keys3, kids3, e1, e2, h, _⟩ := hb3.1 rfl
      exact ⟨keys3, kids3, e1, e2, h⟩
  obtain ⟨keys3, kids3, rfl, rfl, hnode3⟩ := h3
  have hX3 := (hK5.block w.heap.size (lt_of_block HX2.out) (by simp)).trans HX2.out
  have HX3 := Lib.hid hX3; have HN3 := Lib.hid hnode3; clear hX3 hnode3 hb3
  have hlt0 : w.heap.size < w3.heap.size := lt_of_block HX3.out
  go_wp2_with fail
  obtain ⟨w4, hw4⟩ : ∃ w4, w4 = w3.alloc (.cells #[.int .i64 k3, .int .i64 i3, .int .i64 g3, .float .f64 r3, .string s3, .slice ka3 keys3.length kc3, .slice a3 kids3.len cap3] 31) := ⟨_, rfl⟩
  rw [← hw4]
  have hK7 : Kept [] w3 w4 := by rw [hw4]; exact (Kept.refl [] w3).alloc _
  clear hw4
  refine (modest k3 i3 g3 r3 s3 keys3 kids3 w3.heap.size ka3 kc3 a3 cap3 w4 ((HN3.out.mono (Q := Lt w3.heap.size) fun b hb => by
    rcases hb with h | ⟨_, h⟩
    · exact Nat.lt_of_lt_of_le h (Nat.le_trans hN hK6.size)
    · exact h).kept hK7 (ltk (Nat.le_refl _) (by simp))) hK7.size).mono ?_
  rintro e w5 ⟨hK8, b4, rfl, _⟩
  have hK9 : Kept [] w w5 := Kept.trans hK6 (Kept.trans (Z := []) hK7 hK8 (by simp) (by simp)) (by simp) (by simp)
  cases b4
  case' false =>
    go_wp2_with fail
    go_ret
    exact ⟨rfl, hK9⟩
  have hX5 := ((Kept.trans (Z := []) hK7 hK8 (by simp) (by simp)).block w.heap.size hlt0 (by simp)).trans HX3.out
  clear c0 c1 c2 c3 c4 c5 c6
  obtain ⟨⟨c0, c1, c2, c3, c4, c5, c6⟩, -⟩ := seven hX5
  have HX5 := Lib.hid hX5; clear hX5
  obtain ⟨w6, hw6⟩ : ∃ w6, w6 = w5.alloc (.cells #[.int .i64 8, .int .i64 i, .int .i64 g, .float .f64 r, .string s, .slice ka keys.length kc, .slice a kids.len cap] 26) := ⟨_, rfl⟩
  have hKa : Kept [] w w6 := by rw [hw6]; exact hK9.alloc _
  have hX6 : w6.heap[w.heap.size]? = some (.cells #[.int .i64 8, .int .i64 i, .int .i64 g, .float .f64 r, .string s, .slice ka keys.length kc, .slice a kids.len cap] 26 (0, 0)) := by rw [hw6, heap_lt (lt_of_block HX5.out)]; exact HX5.out
  have hA6 : w6.heap[w5.heap.size]? = some (.cells #[.int .i64 8, .int .i64 i, .int .i64 g, .float .f64 r, .string s, .slice ka keys.length kc, .slice a kids.len cap] 26 (0, 0)) := by rw [hw6]; exact heap_at rfl
  have hs6 : w6.heap.size = w5.heap.size + 1 := by rw [hw6]; simp
  have hw5 : w.heap.size < w5.heap.size := lt_of_block HX5.out
  have HX6 := Lib.hid hX6; have HA6 := Lib.hid hA6; have HS6 := Lib.hid hs6; clear hX6 hA6 hs6
  go_wp2_with fail
  rw [← hw6]
  clear hw6 c0 c1 c2 c3 c4 c5 c6
  go_loopw [8, 9, 11, 12, 13, 14, 15, 16, 54] (fun v8 v9 _ _ _ _ _ _ v54 wr => W5L ss ⟨keys, kids⟩ w6.heap.size w5.heap.size w6 v8 v9 v54 wr) (fun _ _ _ _ _ _ _ _ v _ => ss.length - (intOf v).toNat)
  case atStart => exact ⟨0, [], [], fun _ => ⟨keys, kids⟩, i, g, r, s, ka, kc, a, cap, Lt N, rfl, by omega, rfl, rfl, rfl, ⟨by omega, by omega, by omega, by omega⟩, Kept.refl _ _, Two.nil _ _ _ _, HA6.out, HZ0.out, HN.out.kept hKa (ltk hN (by simp)), fun x hx => ⟨Nat.lt_of_lt_of_le hx (Nat.le_trans hN hKa.size), fun h => by have : x < N := hx; omega, fun h => by rcases h with h | h <;> cases h⟩⟩
  case round =>
    obtain ⟨j, bs, vs, d, i9, g9, r9, s9, ka9, kc9, a9, cap9, G, rfl, hj, hbl, hvl, hd00, hhi, hK, htwo, hA, hz9, hn9, hG⟩ := hrel
    have hKw : Kept [] w wr := Kept.trans hKa hK (by simp) (fun y hy hl => by simp at hy; omega)
    have hXr := (hK.block w.heap.size (lt_of_block HX6.out) (by simp; omega)).trans HX6.out
    obtain ⟨hdj, hdl⟩ := Hist.dok hhi (by rw [hd00]; exact HD0.out) j (Nat.le_refl _)
    rw [hd00] at hdl
    have hB6 : w5.heap.size < w6.heap.size := by have := HS6.out; omega
    have HHI := Lib.hid hhi; have HTW := Lib.hid htwo; have HA := Lib.hid hA; have HZ9 := Lib.hid hz9; have HN9 := Lib.hid hn9; have HGX := Lib.hid hG; have HBL := Lib.hid hbl; have HVL := Lib.hid hvl; have HD00 := Lib.hid hd00; have HDJ := Lib.hid hdj; have HDL := Lib.hid hdl; have HXR := Lib.hid hXr; clear hhi htwo hA hz9 hn9 hG hbl hvl hd00 hdj hdl hXr
    by_cases hlt : j < ss.length
    · obtain ⟨b', o', ka', kc', a', cap', rfl, hbN, hcs, hnode, hio, hks⟩ := (HS.out.kept hKw (ltk hN (by simp))).2.2 j hlt
      obtain ⟨t0, t1, t2, t3, t4, t5, t6, t7, t8⟩ := hcs
      obtain ⟨W1, hW1⟩ : ∃ W1, W1 = wr.alloc (.cells #[.int .i64 ss[j].op, .string ss[j].key, .int .i64 ss[j].y.k, .int .i64 ss[j].y.i, .int .i64 ss[j].y.g, .float .f64 ss[j].y.r, .string ss[j].y.s, .slice ka' ss[j].y.keys.length kc', .slice a' ss[j].y.kids.len cap'] 45) := ⟨_, rfl⟩
      have HNY := Lib.hid hnode; clear hnode
      go_upto_region 14 with fail
      rw [← hW1]
      have hKv1 : Kept [] wr W1 := by rw [hW1]; exact (Kept.refl [] wr).alloc _
      have hKv : Kept [] w W1 := Kept.trans hKw hKv1 (by simp) (by simp)
      have hTB : W1.heap[wr.heap.size]? = some (.cells #[.int .i64 ss[j].op, .string ss[j].key, .int .i64 ss[j].y.k, .int .i64 ss[j].y.i, .int .i64 ss[j].y.g, .float .f64 ss[j].y.r, .string ss[j].y.s, .slice ka' ss[j].y.keys.length kc', .slice a' ss[j].y.kids.len cap'] 45 (0, 0)) := by rw [hW1]; exact heap_at rfl
      have hAW : W1.heap[w5.heap.size]? = some (.cells #[.int .i64 8, .int .i64 i9, .int .i64 g9, .float .f64 r9, .string s9, .slice ka9 (d j).keys.length kc9, .slice a9 (d j).kids.len cap9] 26 (0, 0)) := (hKv1.block _ (lt_of_block HA.out) (by simp)).trans HA.out
      clear hW1 t0 t1 t2 t3 t4 t5 t6 t7 t8
      obtain ⟨t0, t1, t2, t3, t4, t5, t6, t7, t8⟩ := nine hTB
      obtain ⟨⟨e0, e1, e2, e3, e4, e5, e6⟩, -⟩ := seven hAW
      have HTB := Lib.hid hTB; have HAW := Lib.hid hAW; clear hTB hAW
      by_cases hop : ss[j].op = 6
      · have zop : (ss[j].op != 6) = false := by rw [hop]; rfl
        have HOP := Lib.hid hop; clear hop
        by_cases hr1 : -1000 < ss[j].y.i
        · by_cases hr2 : ss[j].y.i < 1000
          · skip
            go_wp2_with fail
            refine (simplew ss[j].key _ (by omega)).mono ?_
            rintro e w' ⟨⟨b5, rfl, hb5⟩, rfl⟩
            cases b5
            case' false =>
              go_wp2_with fail
              go_ret
              exact ⟨rfl, hKv⟩
            have HSI := Lib.hid (hb5 rfl); clear hb5
            go_wp2_with fail
            refine (nf_node ss[j].y.k ss[j].y.i ss[j].y.g ss[j].y.r ss[j].y.s ss[j].y.keys ss[j].y.kids N ka' kc' a' cap' W1 (HNY.out.kept hKv1 (ltk (Nat.le_trans hN hKw.size) (by simp))) (HT.out.kept hKv hN (by simp)) (Nat.le_trans hN hKv.size)).mono ?_
            rintro e w7 ⟨hK7, b6, rfl, hb6⟩
            have hKx : Kept [] w w7 := Kept.trans hKv hK7 (by simp) (by simp)
            cases b6
            case' false =>
              go_wp2_with fail
              go_ret
              exact ⟨rfl, hKx⟩
            have HB6 := Lib.hid (hb6 rfl); clear hb6
            have hT7 := (hK7.block wr.heap.size (lt_of_block HTB.out) (by simp)).trans HTB.out
            clear t0 t1 t2 t3 t4 t5 t6 t7 t8 e0 e1 e2 e3 e4 e5 e6
            obtain ⟨t0, t1, t2, t3, t4, t5, t6, t7, t8⟩ := nine hT7
            have hA7 := (hK7.block w5.heap.size (lt_of_block HAW.out) (by simp)).trans HAW.out
            obtain ⟨⟨e0, e1, e2, e3, e4, e5, e6⟩, -⟩ := seven hA7
            have hK17 : Kept [] wr w7 := Kept.trans hKv1 hK7 (by simp) (by simp)
            have hA7' := Lib.hid hA7; clear hA7 hT7
            have hcall := done17d (d j) ss[j].op ss[j].key ss[j].y i9 g9 r9 s9 ⟨wr.heap.size, fun x => x = w5.heap.size ∨ Own2 u8 u9 x⟩ ka9 kc9 a9 cap9 ka' kc' a' cap' w7 HDJ.out HZ9.out
              ((HN9.out.kept hK17 (fun x hx => ⟨(HGX.out x hx).1, by simp⟩)).mono fun x hx => ⟨(HGX.out x hx).1, fun h => by rcases h with h | h; exact (HGX.out x hx).2.1 h; exact (HGX.out x hx).2.2 h⟩)
              ((HNY.out.kept hK17 (ltk (Nat.le_trans hN hKw.size) (by simp))).mono fun x hx => ⟨Nat.lt_of_lt_of_le hx (Nat.le_trans hN hKw.size), fun h => by
                have hxw : x < w.heap.size := Nat.lt_of_lt_of_le hx hN
                rcases h with h | h
                · omega
                · have := (HTW.out.own h).1; have := HS6.out; omega⟩)
              hK17.size HSI.out ⟨(HNY.out.ok HB6.out.2.1 HB6.out.2.2), HB6.out.1.1.1⟩ hio (by have := HDL.out; have := HKL.out; omega)
            have HC := Lib.hid hcall; clear hcall
            go_wp2_with fail
            refine HC.out.mono ?_
            rintro e w8 ⟨hK8x, i8, g8, r8, s8, d8, ka8, kc8, a8, cap8, told8, v8, kb8, kd8, ab8, capb8, is8, rfl, h8⟩
            have hKy : Kept [] w w8 := Kept.trans hKx hK8x (by simp) (by simp)
            cases is8
            case' false =>
              go_wp2_with fail
              go_ret
              exact ⟨rfl, (hKy.alloc _).alloc _⟩
            obtain ⟨hz8, hn8, hv8, hst8⟩ := h8 rfl
            obtain ⟨W4, hW4⟩ : ∃ W4, W4 = (w8.alloc (.cells #[.int .i64 8, .int .i64 i8, .int .i64 g8, .float .f64 r8, .string s8, .slice ka8 d8.keys.length kc8, .slice a8 d8.kids.len cap8] 26)).alloc (.cells #[.int .i64 v8.k, .int .i64 v8.i, .int .i64 v8.g, .float .f64 v8.r, .string v8.s, .slice kb8 v8.keys.length kd8, .slice ab8 v8.kids.len capb8] 26) := ⟨_, rfl⟩
            have HZ8 := Lib.hid hz8; have HN8 := Lib.hid hn8; have HV8 := Lib.hid hv8; have HST8 := Lib.hid hst8; clear h8 hz8 hn8 hv8 hst8
            clear t0 t1 t2 t3 t4 t5 t6 t7 t8 e0 e1 e2 e3 e4 e5 e6
            go_wp2_with fail
            rw [← hW4]
            have hK84 : Kept [] w8 W4 := by rw [hW4]; exact ((Kept.refl [] w8).alloc _).alloc _
            have hs84 : W4.heap.size = w8.heap.size + 1 + 1 := by rw [hW4]; simp
            have hP13 : W4.heap[w8.heap.size]? = some (.cells #[.int .i64 8, .int .i64 i8, .int .i64 g8, .float .f64 r8, .string s8, .slice ka8 d8.keys.length kc8, .slice a8 d8.kids.len cap8] 26 (0, 0)) := by rw [hW4, heap_lt (by simp)]; exact heap_at rfl
            have hP15 : W4.heap[w8.heap.size + 1]? = some (.cells #[.int .i64 v8.k, .int .i64 v8.i, .int .i64 v8.g, .float .f64 v8.r, .string v8.s, .slice kb8 v8.keys.length kd8, .slice ab8 v8.kids.len capb8] 26 (0, 0)) := by rw [hW4]; exact heap_at (by simp)
            clear hW4
            have hKrW : Kept [] wr W4 := Kept.trans (Kept.trans hK17 hK8x (Z := []) (by simp) (by simp)) hK84 (by simp) (by simp)
            have hA4 : W4.heap[w5.heap.size]? = some (.cells #[.int .i64 8, .int .i64 i9, .int .i64 g9, .float .f64 r9, .string s9, .slice ka9 (d j).keys.length kc9, .slice a9 (d j).kids.len cap9] 26 (0, 0)) := (hKrW.block _ (lt_of_block HA.out) (by simp)).trans HA.out
            have hge : ∀ x ∈ u8.ownBlock.toList ++ u9.ownBlock.toList, Own2 u8 u9 x := fun x hx => by
              rcases List.mem_append.1 hx with h | h
              · exact .inl (by simpa using h)
              · exact .inr (by simpa using h)
            have hsr7 := hK17.size
            have hs78 := hK8x.size
            have hAr := lt_of_block HA.out
            have hQX : ∀ x, FrB ⟨wr.heap.size, fun x => x = w5.heap.size ∨ Own2 u8 u9 x⟩ w7.heap.size w8.heap.size x → x < w8.heap.size ∧ x ≠ w5.heap.size ∧ ¬ Own2 u8 u9 x := fun x hx => by
              rcases hx with ⟨h1, h2⟩ | ⟨h1, h2⟩
              · have h1' : x < wr.heap.size := h1
                exact ⟨by omega, fun e => h2 (.inl e), fun e => h2 (.inr e)⟩
              · exact ⟨h2, by omega, fun e => by have := (HTW.out.own e).2; omega⟩
            have hnw := HN8.out.kept hK84 (fun x hx => ⟨(hQX x hx).1, by simp⟩)
            have hvw := HV8.out.kept hK84 (fun x hx => ⟨(hQX x hx).1, by simp⟩)
            obtain ⟨GT, cs, h1, h2, h3, h4, h5, h6⟩ := (HTW.out.kept (hKrW.mono (by simp)) hB6).ex
            have hst := Rg.start (T := 4) (.bool told8) [.int .i64 v8.k, .int .i64 v8.i, .int .i64 v8.g, .float .f64 v8.r, .string v8.s, .slice kb8 v8.keys.length kd8, .slice ab8 v8.kids.len capb8] h1 h2 h4 (by have := hK.size; have := hKrW.size; omega : w6.heap.size ≤ W4.heap.size)
            have hC8 : ∀ W, Kept (u8.ownBlock.toList ++ u9.ownBlock.toList ++ [w5.heap.size]) W4 W → (W.cell? ⟨w8.heap.size, 0, none⟩ = some (.int .i64 8) ∧ W.cell? ⟨w8.heap.size, 1, none⟩ = some (.int .i64 i8) ∧ W.cell? ⟨w8.heap.size, 2, none⟩ = some (.int .i64 g8) ∧ W.cell? ⟨w8.heap.size, 3, none⟩ = some (.float .f64 r8) ∧
                W.cell? ⟨w8.heap.size, 4, none⟩ = some (.string s8) ∧ W.cell? ⟨w8.heap.size, 5, none⟩ = some (.slice ka8 d8.keys.length kc8) ∧ W.cell? ⟨w8.heap.size, 6, none⟩ = some (.slice a8 d8.kids.len cap8)) ∧ (W.cell? ⟨w8.heap.size + 1, 0, none⟩ = some (.int .i64 v8.k) ∧ W.cell? ⟨w8.heap.size + 1, 1, none⟩ = some (.int .i64 v8.i) ∧ W.cell? ⟨w8.heap.size + 1, 2, none⟩ = some (.int .i64 v8.g) ∧ W.cell? ⟨w8.heap.size + 1, 3, none⟩ = some (.float .f64 v8.r) ∧
                W.cell? ⟨w8.heap.size + 1, 4, none⟩ = some (.string v8.s) ∧ W.cell? ⟨w8.heap.size + 1, 5, none⟩ = some (.slice kb8 v8.keys.length kd8) ∧ W.cell? ⟨w8.heap.size + 1, 6, none⟩ = some (.slice ab8 v8.kids.len capb8)) := fun W hW => by
              have hl : ∀ x ∈ u8.ownBlock.toList ++ u9.ownBlock.toList ++ [w5.heap.size], x < w8.heap.size := fun x hx => by
                rcases List.mem_append.1 hx with h | h
                · have := (HTW.out.own (hge x h)).2; omega
                · have : x = w5.heap.size := by simpa using h
                  omega
              have e13 := (hW.block w8.heap.size (by omega) (fun hm => by have := hl _ hm; omega)).trans hP13
              have e15 := (hW.block (w8.heap.size + 1) (by omega) (fun hm => by have := hl _ hm; omega)).trans hP15
              exact ⟨(seven e13).1, (seven e15).1⟩
            have hC7 : ∀ W, Kept (u8.ownBlock.toList ++ u9.ownBlock.toList) W4 W → (W.cell? ⟨w8.heap.size, 0, none⟩ = some (.int .i64 8) ∧ W.cell? ⟨w8.heap.size, 1, none⟩ = some (.int .i64 i8) ∧ W.cell? ⟨w8.heap.size, 2, none⟩ = some (.int .i64 g8) ∧ W.cell? ⟨w8.heap.size, 3, none⟩ = some (.float .f64 r8) ∧
                W.cell? ⟨w8.heap.size, 4, none⟩ = some (.string s8) ∧ W.cell? ⟨w8.heap.size, 5, none⟩ = some (.slice ka8 d8.keys.length kc8) ∧ W.cell? ⟨w8.heap.size, 6, none⟩ = some (.slice a8 d8.kids.len cap8)) ∧ (W.cell? ⟨w8.heap.size + 1, 0, none⟩ = some (.int .i64 v8.k) ∧ W.cell? ⟨w8.heap.size + 1, 1, none⟩ = some (.int .i64 v8.i) ∧ W.cell? ⟨w8.heap.size + 1, 2, none⟩ = some (.int .i64 v8.g) ∧ W.cell? ⟨w8.heap.size + 1, 3, none⟩ = some (.float .f64 v8.r) ∧
                W.cell? ⟨w8.heap.size + 1, 4, none⟩ = some (.string v8.s) ∧ W.cell? ⟨w8.heap.size + 1, 5, none⟩ = some (.slice kb8 v8.keys.length kd8) ∧ W.cell? ⟨w8.heap.size + 1, 6, none⟩ = some (.slice ab8 v8.kids.len capb8)) := fun W hW => hC8 W (hW.mono fun x hx _ => List.mem_append_left _ hx)
            have hA9' : ∀ W, Kept (u8.ownBlock.toList ++ u9.ownBlock.toList) W4 W → W.heap[w5.heap.size]? = some (.cells #[.int .i64 8, .int .i64 i9, .int .i64 g9, .float .f64 r9, .string s9, .slice ka9 (d j).keys.length kc9, .slice a9 (d j).kids.len cap9] 26 (0, 0)) := fun W hW =>
              (hW.block _ (lt_of_block hA4) (fun hm => by have := (HTW.out.own (hge _ hm)).1; omega)).trans hA4
            have hbsl : bs.length ≤ 2147483647 := by have := HBL.out; omega
            have HS84 := Lib.hid hs84; have HC7 := Lib.hid hC7; have HC8 := Lib.hid hC8; have HA9 := Lib.hid hA9'; have HF3 := Lib.hid h3; have HG5 := Lib.hid h5; have HQX := Lib.hid hQX; have HNW := Lib.hid hnw; have HVW := Lib.hid hvw; clear hs84 hC7 hC8 hA9' h3 h5 h6 h1 h2 h4 hQX hnw hvw hP13 hP15 hA4
            refine wp_region_noPanic ?_
            refine wp_region_T (C := fun W => (W.cell? ⟨w8.heap.size, 0, none⟩ = some (.int .i64 8) ∧ W.cell? ⟨w8.heap.size, 1, none⟩ = some (.int .i64 i8) ∧ W.cell? ⟨w8.heap.size, 2, none⟩ = some (.int .i64 g8) ∧ W.cell? ⟨w8.heap.size, 3, none⟩ = some (.float .f64 r8) ∧
                W.cell? ⟨w8.heap.size, 4, none⟩ = some (.string s8) ∧ W.cell? ⟨w8.heap.size, 5, none⟩ = some (.slice ka8 d8.keys.length kc8) ∧ W.cell? ⟨w8.heap.size, 6, none⟩ = some (.slice a8 d8.kids.len cap8)) ∧ (W.cell? ⟨w8.heap.size + 1, 0, none⟩ = some (.int .i64 v8.k) ∧ W.cell? ⟨w8.heap.size + 1, 1, none⟩ = some (.int .i64 v8.i) ∧ W.cell? ⟨w8.heap.size + 1, 2, none⟩ = some (.int .i64 v8.g) ∧ W.cell? ⟨w8.heap.size + 1, 3, none⟩ = some (.float .f64 v8.r) ∧
                W.cell? ⟨w8.heap.size + 1, 4, none⟩ = some (.string v8.s) ∧ W.cell? ⟨w8.heap.size + 1, 5, none⟩ = some (.slice kb8 v8.keys.length kd8) ∧ W.cell? ⟨w8.heap.size + 1, 6, none⟩ = some (.slice ab8 v8.kids.len capb8))) (D := fun _ => True) (st := 100) (by kernel_rfl) ⟨HC7.out _ (Kept.refl _ _).drew, fun _ => trivial⟩ (fun hH => ?_)
            refine wpT_takeC (i := 0) (v := ?_) rfl (by kernel_rfl) (by kernel_rfl) (by kernel_rfl) (by kernel_rfl) (by kernel_rfl) (fun _ _ _ h => h) (Or.inl ⟨by rfl, ?_⟩) (by assumption) ?_
            rotate_left 1
            · intro W hSw
              (try dsimp only at hSw)
              go_simp
              (try with_reducible rfl)
            (try simp only [Act.put, List.getElem_toArray, List.getElem_cons_zero, List.setIfInBounds_toArray, List.set_cons_zero, List.set_cons_succ])
            refine wpT_takeC (i := 1) (v := ?_) rfl (by kernel_rfl) (by kernel_rfl) (by kernel_rfl) (by kernel_rfl) (by kernel_rfl) (fun _ _ _ h => h) (Or.inl ⟨by rfl, ?_⟩) (by assumption) ?_
            rotate_left 1
            · intro W hSw
              (try dsimp only at hSw)
              go_simp
              (try with_reducible rfl)
            (try simp only [Act.put, List.getElem_toArray, List.getElem_cons_succ, List.getElem_cons_zero, List.setIfInBounds_toArray, List.set_cons_zero, List.set_cons_succ])
            refine wpT_takeC (i := 2) (v := ?_) rfl (by kernel_rfl) (by kernel_rfl) (by kernel_rfl) (by kernel_rfl) (by kernel_rfl) (fun _ _ _ h => h) (Or.inl ⟨by rfl, ?_⟩) (by assumption) ?_
            rotate_left 1
            · intro W hSw
              (try dsimp only at hSw)
              go_simp
              (try with_reducible rfl)
            (try simp only [Act.put, List.getElem_toArray, List.getElem_cons_succ, List.getElem_cons_zero, List.setIfInBounds_toArray, List.set_cons_zero, List.set_cons_succ])
            refine wpT_takeC (i := 5) (v := ?_) rfl (by kernel_rfl) (by kernel_rfl) (by kernel_rfl) (by kernel_rfl) (by kernel_rfl) (fun _ _ _ h => h) (Or.inl ⟨by rfl, ?_⟩) (by assumption) ?_
            rotate_left 1
            · intro W hSw
              (try dsimp only at hSw)
              go_simp
              (try with_reducible rfl)
            (try simp only [Act.put, List.getElem_toArray, List.getElem_cons_succ, List.getElem_cons_zero, List.setIfInBounds_toArray, List.set_cons_zero, List.set_cons_succ])
            refine wpT_takeC (i := 6) (v := ?_) rfl (by kernel_rfl) (by kernel_rfl) (by kernel_rfl) (by kernel_rfl) (by kernel_rfl) (fun _ _ _ h => h) (Or.inl ⟨by rfl, ?_⟩) (by assumption) ?_
            rotate_left 1
            · intro W hSw
              (try dsimp only at hSw)
              go_simp
              (try with_reducible rfl)
            (try simp only [Act.put, List.getElem_toArray, List.getElem_cons_succ, List.getElem_cons_zero, List.setIfInBounds_toArray, List.set_cons_zero, List.set_cons_succ])
            refine wpT_ready (rs := [3, 7]) (by kernel_rfl) (by simp) ?_
            refine AllT.cons rfl (fun K hK => ?_) (AllT.cons rfl (fun K hK => ?_) AllT.nil)
            · skip
              clear hH
              go_simp
              refine hK.out _ _ ⟨HC7.out _ (by repeat (first | with_reducible exact hst.keep | with_reducible exact Kept.refl _ _ | with_reducible refine Kept.drew ?_ | with_reducible refine Kept.alloc ?_ _)), fun _ => trivial⟩ (fun hH => ?_)
              clear hK K
              (try simp only [Act.put, List.getElem_toArray, List.getElem_cons_succ, List.getElem_cons_zero, List.setIfInBounds_toArray, List.set_cons_zero, List.set_cons_succ])
              refine wpT_ready (rs := [4, 7]) (by kernel_rfl) (by simp) ?_
              refine AllT.cons rfl (fun K hK => ?_) (AllT.cons rfl (fun K hK => ?_) AllT.nil)
              · skip
                clear hH
                apply stepT
                (case hgd => rfl)
                (case ho => rfl)
                (case hR => (repeat (first | with_reducible exact hst | with_reducible apply Rg.drew | apply Rg.allocK | apply Rg.allocI)))
                (case hs => rfl)
                (case hx => rfl)
                (case hb => first | rfl | (simp; done))
                (case h1 => rfl)
                (case hn => omega)
                all_goals skip
                intro g1 cap1 w9 hst
                refine hK.out _ _ ⟨HC7.out _ (by repeat (first | with_reducible exact hst.keep | with_reducible exact Kept.refl _ _ | with_reducible refine Kept.drew ?_ | with_reducible refine Kept.alloc ?_ _)), fun _ => trivial⟩ (fun hH => ?_)
                clear hK K
                (try simp only [Act.put, List.getElem_toArray, List.getElem_cons_succ, List.getElem_cons_zero, List.setIfInBounds_toArray, List.set_cons_zero, List.set_cons_succ])
                refine wpT_ready (rs := [7]) (by kernel_rfl) (by simp) ?_
                refine AllT.cons rfl (fun K hK => ?_) AllT.nil
                clear hH
                go_simp
                refine hK.out _ _ ⟨HC7.out _ (by repeat (first | with_reducible exact hst.keep | with_reducible exact Kept.refl _ _ | with_reducible refine Kept.drew ?_ | with_reducible refine Kept.alloc ?_ _)), fun _ => trivial⟩ (fun hH => ?_)
                clear hK K
                (try simp only [Act.put, List.getElem_toArray, List.getElem_cons_succ, List.getElem_cons_zero, List.setIfInBounds_toArray, List.set_cons_zero, List.set_cons_succ])
                refine wpT_ready (rs := [8]) (by kernel_rfl) (by simp) ?_
                refine AllT.cons rfl (fun K hK => ?_) AllT.nil
                clear hH
                apply stepI
                (case hgd => rfl)
                (case ho => rfl)
                (case hR => (repeat (first | with_reducible exact hst | with_reducible apply Rg.drew | apply Rg.allocK | apply Rg.allocI)))
                (case hs => rfl)
                (case hx => rfl)
                (case hb => first | rfl | (simp; done))
                (case hl => rfl)
                (case h1 => simp [Value.oneCell'])
                (case hn => omega)
                all_goals skip
                intro g2 cap2 w9 hst
                refine hK.out _ _ ⟨HC7.out _ (by repeat (first | with_reducible exact hst.keep | with_reducible exact Kept.refl _ _ | with_reducible refine Kept.drew ?_ | with_reducible refine Kept.alloc ?_ _)), fun _ => trivial⟩ (fun hH => ?_)
                clear hK K
                (try simp only [Act.put, List.getElem_toArray, List.getElem_cons_succ, List.getElem_cons_zero, List.setIfInBounds_toArray, List.set_cons_zero, List.set_cons_succ])
                have hA9 := HA9.out _ hst.keep
                obtain ⟨hcel, p0, p1, p2, p3, p4, p5, p6⟩ := seven hA9
                refine wpT_ready (rs := [9]) (by kernel_rfl) (by simp) ?_
                refine AllT.cons rfl (fun K hK => ?_) AllT.nil
                clear hH
                go_simp
                refine hK.out _ _ ⟨HC8.out _ (kept7 (b := w5.heap.size) (hst.keep.mono fun x hx _ => List.mem_append_left _ hx) (.inr (by simp)) _ _ _ _ _ _ _), fun _ => trivial⟩ (fun hH => ?_)
                clear hK K p0 p1 p2 p3 p4 p5 p6 hcel
                (try simp only [Act.put, List.getElem_toArray, List.getElem_cons_succ, List.getElem_cons_zero, List.setIfInBounds_toArray, List.set_cons_zero, List.set_cons_succ])
                refine wpT_takeC (i := 10) (v := ?_) rfl (by kernel_rfl) (by kernel_rfl) (by kernel_rfl) (by kernel_rfl) (by kernel_rfl) (fun _ _ _ h => h) (Or.inl ⟨by rfl, ?_⟩) (by assumption) ?_
                rotate_left 1
                · intro W hSw
                  (try dsimp only at hSw)
                  go_simp
                  (try with_reducible rfl)
                (try simp only [Act.put, List.getElem_toArray, List.getElem_cons_succ, List.getElem_cons_zero, List.setIfInBounds_toArray, List.set_cons_zero, List.set_cons_succ])
                refine wpT_takeC (i := 11) (v := ?_) rfl (by kernel_rfl) (by kernel_rfl) (by kernel_rfl) (by kernel_rfl) (by kernel_rfl) (fun _ _ _ h => h) (Or.inl ⟨by rfl, ?_⟩) (by assumption) ?_
                rotate_left 1
                · intro W hSw
                  (try dsimp only at hSw)
                  go_simp
                  (try with_reducible rfl)
                (try simp only [Act.put, List.getElem_toArray, List.getElem_cons_succ, List.getElem_cons_zero, List.setIfInBounds_toArray, List.set_cons_zero, List.set_cons_succ])
                refine wpT_done (by kernel_rfl) ?_ _
                refine NoPanic.normal ?_
                obtain ⟨W10, hW10⟩ : ∃ W10, W10 = ((((((w9.setCell ⟨w5.heap.size, 0, none⟩ (.int .i64 8)).setCell ⟨w5.heap.size, 1, none⟩ (.int .i64 i8)).setCell ⟨w5.heap.size, 2, none⟩ (.int .i64 g8)).setCell ⟨w5.heap.size, 3, none⟩ (.float .f64 r8)).setCell ⟨w5.heap.size, 4, none⟩ (.string s8)).setCell ⟨w5.heap.size, 5, none⟩ (.slice ka8 d8.keys.length kc8)).setCell ⟨w5.heap.size, 6, none⟩ (.slice a8 d8.kids.len cap8) := ⟨_, rfl⟩
                have hK10 : Kept [w5.heap.size] w9 W10 := by rw [hW10]; exact kept7 (Kept.refl _ _) (.inr (by simp)) _ _ _ _ _ _ _
                have hA10 : W10.heap[w5.heap.size]? = some (.cells #[.int .i64 8, .int .i64 i8, .int .i64 g8, .float .f64 r8, .string s8, .slice ka8 d8.keys.length kc8, .slice a8 d8.kids.len cap8] 26 (0, 0)) := by rw [hW10]; exact set7 hA9 _ _ _ _ _ _ _
                rw [← hW10]
                clear hW10 hA9
                have hKf : Kept [w5.heap.size] w6 W10 := Kept.trans (Kept.trans (Kept.trans hK hKrW (Z := [w5.heap.size]) (fun _ h => h) (by simp)) hst.keep (Z := [w5.heap.size]) (fun _ h => h) (fun x hx hl => by have := (HTW.out.own (hge x hx)).1; omega)) hK10 (fun _ h => h) (fun _ h _ => h)
                have htw := Two.more (b := w5.heap.size) (n := v8) rfl hst rfl rfl HF3.out HG5.out HVW.out (fun x hx => by have h := HQX.out x hx; have := HS84.out; exact ⟨by omega, h.2.1, fun e => h.2.2 (.inl e), fun e => h.2.2 (.inr e)⟩) (fun _ _ => trivial) (fun _ _ => trivial)
                have htw2 := htw.kept hK10 hB6
                have hn10 := (HNW.out.kept hst.keep (fun x hx => ⟨by have := HQX.out x hx; have := HS84.out; omega, fun hm => (HQX.out x hx).2.2 (hge x hm)⟩)).kept hK10 (fun x hx => ⟨by have := HQX.out x hx; have := hst.keep.size; have := HS84.out; omega, fun hm => (HQX.out x hx).2.1 (by simpa using hm)⟩)
                have hg10 : ∀ x, FrB ⟨wr.heap.size, fun x => x = w5.heap.size ∨ Own2 u8 u9 x⟩ w7.heap.size w8.heap.size x → x < W10.heap.size ∧ x ≠ w5.heap.size ∧ ¬ Own2 _ _ x := fun x hx => by
                  have h := HQX.out x hx; have hs84 := HS84.out
                  exact ⟨by have := hst.keep.size; have := hK10.size; omega, h.2.1, hst.own2 (by omega) (fun e => h.2.2 (.inl e)) (fun e => h.2.2 (.inr e))⟩
                have hh := HHI.out.more HBL.out HVL.out hlt HST8.out HSI.out ⟨(HNY.out.ok HB6.out.2.1 HB6.out.2.2), HB6.out.1.1.1⟩
                have hdu : dup d (j + 1) d8 (j + 1) = d8 := if_pos rfl
                have hd0' : dup d (j + 1) d8 0 = d 0 := if_neg (by omega)
                have H1 := Lib.hid hKf; have H2 := Lib.hid htw2; have H3 := Lib.hid hn10; have H4 := Lib.hid hg10; have H5 := Lib.hid hh; have H6 := Lib.hid hdu; have H7 := Lib.hid hA10; have H8 := Lib.hid hd0'; clear hKf htw htw2 hn10 hg10 hh hdu hst hA10 hd0'
                go_wp2_with fail
                exact ⟨⟨j + 1, bs ++ [told8], vs ++ [v8], dup d (j + 1) d8, i8, g8, r8, s8, ka8, kc8, a8, cap8, _, by go_num, by omega, by simp [HBL.out], by simp [HVL.out], by rw [H8.out]; exact HD00.out, H5.out, H1.out, H2.out, by rw [H6.out]; exact H7.out, HZ8.out, by rw [H6.out]; exact H3.out, H4.out⟩, by simp [intOf]; omega⟩
              · skip
                clear hH
                go_simp
                refine hK.out _ _ ⟨HC7.out _ (by repeat (first | with_reducible exact hst.keep | with_reducible exact Kept.refl _ _ | with_reducible refine Kept.drew ?_ | with_reducible refine Kept.alloc ?_ _)), fun _ => trivial⟩ (fun hH => ?_)
                clear hK K
                (try simp only [Act.put, List.getElem_toArray, List.getElem_cons_succ, List.getElem_cons_zero, List.setIfInBounds_toArray, List.set_cons_zero, List.set_cons_succ])
                refine wpT_ready (rs := [4]) (by kernel_rfl) (by simp) ?_
                refine AllT.cons rfl (fun K hK => ?_) AllT.nil
                clear hH
                apply stepT
                (case hgd => rfl)
                (case ho => rfl)
                (case hR => (repeat (first | with_reducible exact hst | with_reducible apply Rg.drew | apply Rg.allocK | apply Rg.allocI)))
                (case hs => rfl)
                (case hx => rfl)
                (case hb => first | rfl | (simp; done))
                (case h1 => rfl)
                (case hn => omega)
                all_goals skip
                intro g1 cap1 w9 hst
                refine hK.out _ _ ⟨HC7.out _ (by repeat (first | with_reducible exact hst.keep | with_reducible exact Kept.refl _ _ | with_reducible refine Kept.drew ?_ | with_reducible refine Kept.alloc ?_ _)), fun _ => trivial⟩ (fun hH => ?_)
                clear hK K
                (try simp only [Act.put, List.getElem_toArray, List.getElem_cons_succ, List.getElem_cons_zero, List.setIfInBounds_toArray, List.set_cons_zero, List.set_cons_succ])
                refine wpT_ready (rs := [8]) (by kernel_rfl) (by simp) ?_
                refine AllT.cons rfl (fun K hK => ?_) AllT.nil
                clear hH
                apply stepI
                (case hgd => rfl)
                (case ho => rfl)
                (case hR => (repeat (first | with_reducible exact hst | with_reducible apply Rg.drew | apply Rg.allocK | apply Rg.allocI)))
                (case hs => rfl)
                (case hx => rfl)
                (case hb => first | rfl | (simp; done))
                (case hl => rfl)
                (case h1 => simp [Value.oneCell'])
                (case hn => omega)
                all_goals skip
                intro g2 cap2 w9 hst
                refine hK.out _ _ ⟨HC7.out _ (by repeat (first | with_reducible exact hst.keep | with_reducible exact Kept.refl _ _ | with_reducible refine Kept.drew ?_ | with_reducible refine Kept.alloc ?_ _)), fun _ => trivial⟩ (fun hH => ?_)
                clear hK K
                (try simp only [Act.put, List.getElem_toArray, List.getElem_cons_succ, List.getElem_cons_zero, List.setIfInBounds_toArray, List.set_cons_zero, List.set_cons_succ])
                have hA9 := HA9.out _ hst.keep
                obtain ⟨hcel, p0, p1, p2, p3, p4, p5, p6⟩ := seven hA9
                refine wpT_ready (rs := [9]) (by kernel_rfl) (by simp) ?_
                refine AllT.cons rfl (fun K hK => ?_) AllT.nil
                clear hH
                go_simp
                refine hK.out _ _ ⟨HC8.out _ (kept7 (b := w5.heap.size) (hst.keep.mono fun x hx _ => List.mem_append_left _ hx) (.inr (by simp)) _ _ _ _ _ _ _), fun _ => trivial⟩ (fun hH => ?_)
                clear hK K p0 p1 p2 p3 p4 p5 p6 hcel
                (try simp only [Act.put, List.getElem_toArray, List.getElem_cons_succ, List.getElem_cons_zero, List.setIfInBounds_toArray, List.set_cons_zero, List.set_cons_succ])
                refine wpT_takeC (i := 10) (v := ?_) rfl (by kernel_rfl) (by kernel_rfl) (by kernel_rfl) (by kernel_rfl) (by kernel_rfl) (fun _ _ _ h => h) (Or.inl ⟨by rfl, ?_⟩) (by assumption) ?_
                rotate_left 1
                · intro W hSw
                  (try dsimp only at hSw)
                  go_simp
                  (try with_reducible rfl)
                (try simp only [Act.put, List.getElem_toArray, List.getElem_cons_succ, List.getElem_cons_zero, List.setIfInBounds_toArray, List.set_cons_zero, List.set_cons_succ])
                refine wpT_takeC (i := 11) (v := ?_) rfl (by kernel_rfl) (by kernel_rfl) (by kernel_rfl) (by kernel_rfl) (by kernel_rfl) (fun _ _ _ h => h) (Or.inl ⟨by rfl, ?_⟩) (by assumption) ?_
                rotate_left 1
                · intro W hSw
                  (try dsimp only at hSw)
                  go_simp
                  (try with_reducible rfl)
                (try simp only [Act.put, List.getElem_toArray, List.getElem_cons_succ, List.getElem_cons_zero, List.setIfInBounds_toArray, List.set_cons_zero, List.set_cons_succ])
                refine wpT_done (by kernel_rfl) ?_ _
                refine NoPanic.normal ?_
                obtain ⟨W10, hW10⟩ : ∃ W10, W10 = ((((((w9.setCell ⟨w5.heap.size, 0, none⟩ (.int .i64 8)).setCell ⟨w5.heap.size, 1, none⟩ (.int .i64 i8)).setCell ⟨w5.heap.size, 2, none⟩ (.int .i64 g8)).setCell ⟨w5.heap.size, 3, none⟩ (.float .f64 r8)).setCell ⟨w5.heap.size, 4, none⟩ (.string s8)).setCell ⟨w5.heap.size, 5, none⟩ (.slice ka8 d8.keys.length kc8)).setCell ⟨w5.heap.size, 6, none⟩ (.slice a8 d8.kids.len cap8) := ⟨_, rfl⟩
                have hK10 : Kept [w5.heap.size] w9 W10 := by rw [hW10]; exact kept7 (Kept.refl _ _) (.inr (by simp)) _ _ _ _ _ _ _
                have hA10 : W10.heap[w5.heap.size]? = some (.cells #[.int .i64 8, .int .i64 i8, .int .i64 g8, .float .f64 r8, .string s8, .slice ka8 d8.keys.length kc8, .slice a8 d8.kids.len cap8] 26 (0, 0)) := by rw [hW10]; exact set7 hA9 _ _ _ _ _ _ _
                rw [← hW10]
                clear hW10 hA9
                have hKf : Kept [w5.heap.size] w6 W10 := Kept.trans (Kept.trans (Kept.trans hK hKrW (Z := [w5.heap.size]) (fun _ h => h) (by simp)) hst.keep (Z := [w5.heap.size]) (fun _ h => h) (fun x hx hl => by have := (HTW.out.own (hge x hx)).1; omega)) hK10 (fun _ h => h) (fun _ h _ => h)
                have htw := Two.more (b := w5.heap.size) (n := v8) rfl hst rfl rfl HF3.out HG5.out HVW.out (fun x hx => by have h := HQX.out x hx; have := HS84.out; exact ⟨by omega, h.2.1, fun e => h.2.2 (.inl e), fun e => h.2.2 (.inr e)⟩) (fun _ _ => trivial) (fun _ _ => trivial)
                have htw2 := htw.kept hK10 hB6
                have hn10 := (HNW.out.kept hst.keep (fun x hx => ⟨by have := HQX.out x hx; have := HS84.out; omega, fun hm => (HQX.out x hx).2.2 (hge x hm)⟩)).kept hK10 (fun x hx => ⟨by have := HQX.out x hx; have := hst.keep.size; have := HS84.out; omega, fun hm => (HQX.out x hx).2.1 (by simpa using hm)⟩)
                have hg10 : ∀ x, FrB ⟨wr.heap.size, fun x => x = w5.heap.size ∨ Own2 u8 u9 x⟩ w7.heap.size w8.heap.size x → x < W10.heap.size ∧ x ≠ w5.heap.size ∧ ¬ Own2 _ _ x := fun x hx => by
                  have h := HQX.out x hx; have hs84 := HS84.out
                  exact ⟨by have := hst.keep.size; have := hK10.size; omega, h.2.1, hst.own2 (by omega) (fun e => h.2.2 (.inl e)) (fun e => h.2.2 (.inr e))⟩
                have hh := HHI.out.more HBL.out HVL.out hlt HST8.out HSI.out ⟨(HNY.out.ok HB6.out.2.1 HB6.out.2.2), HB6.out.1.1.1⟩
                have hdu : dup d (j + 1) d8 (j + 1) = d8 := if_pos rfl
                have hd0' : dup d (j + 1) d8 0 = d 0 := if_neg (by omega)
                have H1 := Lib.hid hKf; have H2 := Lib.hid htw2; have H3 := Lib.hid hn10; have H4 := Lib.hid hg10; have H5 := Lib.hid hh; have H6 := Lib.hid hdu; have H7 := Lib.hid hA10; have H8 := Lib.hid hd0'; clear hKf htw htw2 hn10 hg10 hh hdu hst hA10 hd0'
                go_wp2_with fail
                exact ⟨⟨j + 1, bs ++ [told8], vs ++ [v8], dup d (j + 1) d8, i8, g8, r8, s8, ka8, kc8, a8, cap8, _, by go_num, by omega, by simp [HBL.out], by simp [HVL.out], by rw [H8.out]; exact HD00.out, H5.out, H1.out, H2.out, by rw [H6.out]; exact H7.out, HZ8.out, by rw [H6.out]; exact H3.out, H4.out⟩, by simp [intOf]; omega⟩
            · skip
              clear hH
              go_simp
              refine hK.out _ _ ⟨HC7.out _ (by repeat (first | with_reducible exact hst.keep | with_reducible exact Kept.refl _ _ | with_reducible refine Kept.drew ?_ | with_reducible refine Kept.alloc ?_ _)), fun _ => trivial⟩ (fun hH => ?_)
              clear hK K
              (try simp only [Act.put, List.getElem_toArray, List.getElem_cons_succ, List.getElem_cons_zero, List.setIfInBounds_toArray, List.set_cons_zero, List.set_cons_succ])
              refine wpT_ready (rs := [3]) (by kernel_rfl) (by simp) ?_
              refine AllT.cons rfl (fun K hK => ?_) AllT.nil
              clear hH
              go_simp
              refine hK.out _ _ ⟨HC7.out _ (by repeat (first | with_reducible exact hst.keep | with_reducible exact Kept.refl _ _ | with_reducible refine Kept.drew ?_ | with_reducible refine Kept.alloc ?_ _)), fun _ => trivial⟩ (fun hH => ?_)
              clear hK K
              (try simp only [Act.put, List.getElem_toArray, List.getElem_cons_succ, List.getElem_cons_zero, List.setIfInBounds_toArray, List.set_cons_zero, List.set_cons_succ])
              refine wpT_ready (rs := [4]) (by kernel_rfl) (by simp) ?_
              refine AllT.cons rfl (fun K hK => ?_) AllT.nil
              clear hH
              apply stepT
              (case hgd => rfl)
              (case ho => rfl)
              (case hR => (repeat (first | with_reducible exact hst | with_reducible apply Rg.drew | apply Rg.allocK | apply Rg.allocI)))
              (case hs => rfl)
              (case hx => rfl)
              (case hb => first | rfl | (simp; done))
              (case h1 => rfl)
              (case hn => omega)
              all_goals skip
              intro g1 cap1 w9 hst
              refine hK.out _ _ ⟨HC7.out _ (by repeat (first | with_reducible exact hst.keep | with_reducible exact Kept.refl _ _ | with_reducible refine Kept.drew ?_ | with_reducible refine Kept.alloc ?_ _)), fun _ => trivial⟩ (fun hH => ?_)
              clear hK K
              (try simp only [Act.put, List.getElem_toArray, List.getElem_cons_succ, List.getElem_cons_zero, List.setIfInBounds_toArray, List.set_cons_zero, List.set_cons_succ])
              refine wpT_ready (rs := [8]) (by kernel_rfl) (by simp) ?_
              refine AllT.cons rfl (fun K hK => ?_) AllT.nil
              clear hH
              apply stepI
              (case hgd => rfl)
              (case ho => rfl)
              (case hR => (repeat (first | with_reducible exact hst | with_reducible apply Rg.drew | apply Rg.allocK | apply Rg.allocI)))
              (case hs => rfl)
              (case hx => rfl)
              (case hb => first | rfl | (simp; done))
              (case hl => rfl)
              (case h1 => simp [Value.oneCell'])
              (case hn => omega)
              all_goals skip
              intro g2 cap2 w9 hst
              refine hK.out _ _ ⟨HC7.out _ (by repeat (first | with_reducible exact hst.keep | with_reducible exact Kept.refl _ _ | with_reducible refine Kept.drew ?_ | with_reducible refine Kept.alloc ?_ _)), fun _ => trivial⟩ (fun hH => ?_)
              clear hK K
              (try simp only [Act.put, List.getElem_toArray, List.getElem_cons_succ, List.getElem_cons_zero, List.setIfInBounds_toArray, List.set_cons_zero, List.set_cons_succ])
              have hA9 := HA9.out _ hst.keep
              obtain ⟨hcel, p0, p1, p2, p3, p4, p5, p6⟩ := seven hA9
              refine wpT_ready (rs := [9]) (by kernel_rfl) (by simp) ?_
              refine AllT.cons rfl (fun K hK => ?_) AllT.nil
              clear hH
              go_simp
              refine hK.out _ _ ⟨HC8.out _ (kept7 (b := w5.heap.size) (hst.keep.mono fun x hx _ => List.mem_append_left _ hx) (.inr (by simp)) _ _ _ _ _ _ _), fun _ => trivial⟩ (fun hH => ?_)
              clear hK K p0 p1 p2 p3 p4 p5 p6 hcel
              (try simp only [Act.put, List.getElem_toArray, List.getElem_cons_succ, List.getElem_cons_zero, List.setIfInBounds_toArray, List.set_cons_zero, List.set_cons_succ])
              refine wpT_takeC (i := 10) (v := ?_) rfl (by kernel_rfl) (by kernel_rfl) (by kernel_rfl) (by kernel_rfl) (by kernel_rfl) (fun _ _ _ h => h) (Or.inl ⟨by rfl, ?_⟩) (by assumption) ?_
              rotate_left 1
              · intro W hSw
                (try dsimp only at hSw)
                go_simp
                (try with_reducible rfl)
              (try simp only [Act.put, List.getElem_toArray, List.getElem_cons_succ, List.getElem_cons_zero, List.setIfInBounds_toArray, List.set_cons_zero, List.set_cons_succ])
              refine wpT_takeC (i := 11) (v := ?_) rfl (by kernel_rfl) (by kernel_rfl) (by kernel_rfl) (by kernel_rfl) (by kernel_rfl) (fun _ _ _ h => h) (Or.inl ⟨by rfl, ?_⟩) (by assumption) ?_
              rotate_left 1
              · intro W hSw
                (try dsimp only at hSw)
                go_simp
                (try with_reducible rfl)
              (try simp only [Act.put, List.getElem_toArray, List.getElem_cons_succ, List.getElem_cons_zero, List.setIfInBounds_toArray, List.set_cons_zero, List.set_cons_succ])
              refine wpT_done (by kernel_rfl) ?_ _
              refine NoPanic.normal ?_
              obtain ⟨W10, hW10⟩ : ∃ W10, W10 = ((((((w9.setCell ⟨w5.heap.size, 0, none⟩ (.int .i64 8)).setCell ⟨w5.heap.size, 1, none⟩ (.int .i64 i8)).setCell ⟨w5.heap.size, 2, none⟩ (.int .i64 g8)).setCell ⟨w5.heap.size, 3, none⟩ (.float .f64 r8)).setCell ⟨w5.heap.size, 4, none⟩ (.string s8)).setCell ⟨w5.heap.size, 5, none⟩ (.slice ka8 d8.keys.length kc8)).setCell ⟨w5.heap.size, 6, none⟩ (.slice a8 d8.kids.len cap8) := ⟨_, rfl⟩
              have hK10 : Kept [w5.heap.size] w9 W10 := by rw [hW10]; exact kept7 (Kept.refl _ _) (.inr (by simp)) _ _ _ _ _ _ _
              have hA10 : W10.heap[w5.heap.size]? = some (.cells #[.int .i64 8, .int .i64 i8, .int .i64 g8, .float .f64 r8, .string s8, .slice ka8 d8.keys.length kc8, .slice a8 d8.kids.len cap8] 26 (0, 0)) := by rw [hW10]; exact set7 hA9 _ _ _ _ _ _ _
              rw [← hW10]
              clear hW10 hA9
              have hKf : Kept [w5.heap.size] w6 W10 := Kept.trans (Kept.trans (Kept.trans hK hKrW (Z := [w5.heap.size]) (fun _ h => h) (by simp)) hst.keep (Z := [w5.heap.size]) (fun _ h => h) (fun x hx hl => by have := (HTW.out.own (hge x hx)).1; omega)) hK10 (fun _ h => h) (fun _ h _ => h)
              have htw := Two.more (b := w5.heap.size) (n := v8) rfl hst rfl rfl HF3.out HG5.out HVW.out (fun x hx => by have h := HQX.out x hx; have := HS84.out; exact ⟨by omega, h.2.1, fun e => h.2.2 (.inl e), fun e => h.2.2 (.inr e)⟩) (fun _ _ => trivial) (fun _ _ => trivial)
              have htw2 := htw.kept hK10 hB6
              have hn10 := (HNW.out.kept hst.keep (fun x hx => ⟨by have := HQX.out x hx; have := HS84.out; omega, fun hm => (HQX.out x hx).2.2 (hge x hm)⟩)).kept hK10 (fun x hx => ⟨by have := HQX.out x hx; have := hst.keep.size; have := HS84.out; omega, fun hm => (HQX.out x hx).2.1 (by simpa using hm)⟩)
              have hg10 : ∀ x, FrB ⟨wr.heap.size, fun x => x = w5.heap.size ∨ Own2 u8 u9 x⟩ w7.heap.size w8.heap.size x → x < W10.heap.size ∧ x ≠ w5.heap.size ∧ ¬ Own2 _ _ x := fun x hx => by
                have h := HQX.out x hx; have hs84 := HS84.out
                exact ⟨by have := hst.keep.size; have := hK10.size; omega, h.2.1, hst.own2 (by omega) (fun e => h.2.2 (.inl e)) (fun e => h.2.2 (.inr e))⟩
              have hh := HHI.out.more HBL.out HVL.out hlt HST8.out HSI.out ⟨(HNY.out.ok HB6.out.2.1 HB6.out.2.2), HB6.out.1.1.1⟩
              have hdu : dup d (j + 1) d8 (j + 1) = d8 := if_pos rfl
              have hd0' : dup d (j + 1) d8 0 = d 0 := if_neg (by omega)
              have H1 := Lib.hid hKf; have H2 := Lib.hid htw2; have H3 := Lib.hid hn10; have H4 := Lib.hid hg10; have H5 := Lib.hid hh; have H6 := Lib.hid hdu; have H7 := Lib.hid hA10; have H8 := Lib.hid hd0'; clear hKf htw htw2 hn10 hg10 hh hdu hst hA10 hd0'
              go_wp2_with fail
              exact ⟨⟨j + 1, bs ++ [told8], vs ++ [v8], dup d (j + 1) d8, i8, g8, r8, s8, ka8, kc8, a8, cap8, _, by go_num, by omega, by simp [HBL.out], by simp [HVL.out], by rw [H8.out]; exact HD00.out, H5.out, H1.out, H2.out, by rw [H6.out]; exact H7.out, HZ8.out, by rw [H6.out]; exact H3.out, H4.out⟩, by simp [intOf]; omega⟩
          · skip
            go_wp2_with fail
            refine (simplew ss[j].key _ (by omega)).mono ?_
            rintro e w' ⟨⟨b5, rfl, hb5⟩, rfl⟩
            cases b5
            case' false =>
              go_wp2_with fail
              go_ret
              exact ⟨rfl, hKv⟩
            have HSI := Lib.hid (hb5 rfl); clear hb5
            go_wp2_with fail
            refine (nf_node ss[j].y.k ss[j].y.i ss[j].y.g ss[j].y.r ss[j].y.s ss[j].y.keys ss[j].y.kids N ka' kc' a' cap' W1 (HNY.out.kept hKv1 (ltk (Nat.le_trans hN hKw.size) (by simp))) (HT.out.kept hKv hN (by simp)) (Nat.le_trans hN hKv.size)).mono ?_
            rintro e w7 ⟨hK7, b6, rfl, hb6⟩
            have hKx : Kept [] w w7 := Kept.trans hKv hK7 (by simp) (by simp)
            cases b6
            case' false =>
              go_wp2_with fail
              go_ret
              exact ⟨rfl, hKx⟩
            have HB6 := Lib.hid (hb6 rfl); clear hb6
            go_wp2_with fail
            go_ret
            exact ⟨rfl, hKx⟩
        · skip
          go_wp2_with fail
          refine (simplew ss[j].key _ (by omega)).mono ?_
          rintro e w' ⟨⟨b5, rfl, hb5⟩, rfl⟩
          cases b5
          case' false =>
            go_wp2_with fail
            go_ret
            exact ⟨rfl, hKv⟩
          have HSI := Lib.hid (hb5 rfl); clear hb5
          go_wp2_with fail
          refine (nf_node ss[j].y.k ss[j].y.i ss[j].y.g ss[j].y.r ss[j].y.s ss[j].y.keys ss[j].y.kids N ka' kc' a' cap' W1 (HNY.out.kept hKv1 (ltk (Nat.le_trans hN hKw.size) (by simp))) (HT.out.kept hKv hN (by simp)) (Nat.le_trans hN hKv.size)).mono ?_
          rintro e w7 ⟨hK7, b6, rfl, hb6⟩
          have hKx : Kept [] w w7 := Kept.trans hKv hK7 (by simp) (by simp)
          cases b6
          case' false =>
            go_wp2_with fail
            go_ret
            exact ⟨rfl, hKx⟩
          have HB6 := Lib.hid (hb6 rfl); clear hb6
          go_wp2_with fail
          go_ret
          exact ⟨rfl, hKx⟩
      · have zop : (ss[j].op != 6) = true := bne_iff_ne.2 hop
        clear hop
        go_wp2_with fail
        refine (simplew ss[j].key _ (by omega)).mono ?_
        rintro e w' ⟨⟨b5, rfl, hb5⟩, rfl⟩
        cases b5
        case' false =>
          go_wp2_with fail
          go_ret
          exact ⟨rfl, hKv⟩
        have HSI := Lib.hid (hb5 rfl); clear hb5
        go_wp2_with fail
        refine (nf_node ss[j].y.k ss[j].y.i ss[j].y.g ss[j].y.r ss[j].y.s ss[j].y.keys ss[j].y.kids N ka' kc' a' cap' W1 (HNY.out.kept hKv1 (ltk (Nat.le_trans hN hKw.size) (by simp))) (HT.out.kept hKv hN (by simp)) (Nat.le_trans hN hKv.size)).mono ?_
        rintro e w7 ⟨hK7, b6, rfl, hb6⟩
        have hKx : Kept [] w w7 := Kept.trans hKv hK7 (by simp) (by simp)
        cases b6
        case' false =>
          go_wp2_with fail
          go_ret
          exact ⟨rfl, hKx⟩
        have HB6 := Lib.hid (hb6 rfl); clear hb6
        have hT7 := (hK7.block wr.heap.size (lt_of_block HTB.out) (by simp)).trans HTB.out
        clear t0 t1 t2 t3 t4 t5 t6 t7 t8 e0 e1 e2 e3 e4 e5 e6
        obtain ⟨t0, t1, t2, t3, t4, t5, t6, t7, t8⟩ := nine hT7
        have hA7 := (hK7.block w5.heap.size (lt_of_block HAW.out) (by simp)).trans HAW.out
        obtain ⟨⟨e0, e1, e2, e3, e4, e5, e6⟩, -⟩ := seven hA7
        have hK17 : Kept [] wr w7 := Kept.trans hKv1 hK7 (by simp) (by simp)
        have hA7' := Lib.hid hA7; clear hA7 hT7
        have hcall := done17d (d j) ss[j].op ss[j].key ss[j].y i9 g9 r9 s9 ⟨wr.heap.size, fun x => x = w5.heap.size ∨ Own2 u8 u9 x⟩ ka9 kc9 a9 cap9 ka' kc' a' cap' w7 HDJ.out HZ9.out
          ((HN9.out.kept hK17 (fun x hx => ⟨(HGX.out x hx).1, by simp⟩)).mono fun x hx => ⟨(HGX.out x hx).1, fun h => by rcases h with h | h; exact (HGX.out x hx).2.1 h; exact (HGX.out x hx).2.2 h⟩)
          ((HNY.out.kept hK17 (ltk (Nat.le_trans hN hKw.size) (by simp))).mono fun x hx => ⟨Nat.lt_of_lt_of_le hx (Nat.le_trans hN hKw.size), fun h => by
            have hxw : x < w.heap.size := Nat.lt_of_lt_of_le hx hN
            rcases h with h | h
            · omega
            · have := (HTW.out.own h).1; have := HS6.out; omega⟩)
          hK17.size HSI.out ⟨(HNY.out.ok HB6.out.2.1 HB6.out.2.2), HB6.out.1.1.1⟩ hio (by have := HDL.out; have := HKL.out; omega)
        have HC := Lib.hid hcall; clear hcall
        go_wp2_with fail
        refine HC.out.mono ?_
        rintro e w8 ⟨hK8x, i8, g8, r8, s8, d8, ka8, kc8, a8, cap8, told8, v8, kb8, kd8, ab8, capb8, is8, rfl, h8⟩
        have hKy : Kept [] w w8 := Kept.trans hKx hK8x (by simp) (by simp)
        cases is8
        case' false =>
          go_wp2_with fail
          go_ret
          exact ⟨rfl, (hKy.alloc _).alloc _⟩
        obtain ⟨hz8, hn8, hv8, hst8⟩ := h8 rfl
        obtain ⟨W4, hW4⟩ : ∃ W4, W4 = (w8.alloc (.cells #[.int .i64 8, .int .i64 i8, .int .i64 g8, .float .f64 r8, .string s8, .slice ka8 d8.keys.length kc8, .slice a8 d8.kids.len cap8] 26)).alloc (.cells #[.int .i64 v8.k, .int .i64 v8.i, .int .i64 v8.g, .float .f64 v8.r, .string v8.s, .slice kb8 v8.keys.length kd8, .slice ab8 v8.kids.len capb8] 26) := ⟨_, rfl⟩
        have HZ8 := Lib.hid hz8; have HN8 := Lib.hid hn8; have HV8 := Lib.hid hv8; have HST8 := Lib.hid hst8; clear h8 hz8 hn8 hv8 hst8
        clear t0 t1 t2 t3 t4 t5 t6 t7 t8 e0 e1 e2 e3 e4 e5 e6
        go_wp2_with fail
        rw [← hW4]
        have hK84 : Kept [] w8 W4 := by rw [hW4]; exact ((Kept.refl [] w8).alloc _).alloc _
        have hs84 : W4.heap.size = w8.heap.size + 1 + 1 := by rw [hW4]; simp
        have hP13 : W4.heap[w8.heap.size]? = some (.cells #[.int .i64 8, .int .i64 i8, .int .i64 g8, .float .f64 r8, .string s8, .slice ka8 d8.keys.length kc8, .slice a8 d8.kids.len cap8] 26 (0, 0)) := by rw [hW4, heap_lt (by simp)]; exact heap_at rfl
        have hP15 : W4.heap[w8.heap.size + 1]? = some (.cells #[.int .i64 v8.k, .int .i64 v8.i, .int .i64 v8.g, .float .f64 v8.r, .string v8.s, .slice kb8 v8.keys.length kd8, .slice ab8 v8.kids.len capb8] 26 (0, 0)) := by rw [hW4]; exact heap_at (by simp)
        clear hW4
        have hKrW : Kept [] wr W4 := Kept.trans (Kept.trans hK17 hK8x (Z := []) (by simp) (by simp)) hK84 (by simp) (by simp)
        have hA4 : W4.heap[w5.heap.size]? = some (.cells #[.int .i64 8, .int .i64 i9, .int .i64 g9, .float .f64 r9, .string s9, .slice ka9 (d j).keys.length kc9, .slice a9 (d j).kids.len cap9] 26 (0, 0)) := (hKrW.block _ (lt_of_block HA.out) (by simp)).trans HA.out
        have hge : ∀ x ∈ u8.ownBlock.toList ++ u9.ownBlock.toList, Own2 u8 u9 x := fun x hx => by
          rcases List.mem_append.1 hx with h | h
          · exact .inl (by simpa using h)
          · exact .inr (by simpa using h)
        have hsr7 := hK17.size
        have hs78 := hK8x.size
        have hAr := lt_of_block HA.out
        have hQX : ∀ x, FrB ⟨wr.heap.size, fun x => x = w5.heap.size ∨ Own2 u8 u9 x⟩ w7.heap.size w8.heap.size x → x < w8.heap.size ∧ x ≠ w5.heap.size ∧ ¬ Own2 u8 u9 x := fun x hx => by
          rcases hx with ⟨h1, h2⟩ | ⟨h1, h2⟩
          · have h1' : x < wr.heap.size := h1
            exact ⟨by omega, fun e => h2 (.inl e), fun e => h2 (.inr e)⟩
          · exact ⟨h2, by omega, fun e => by have := (HTW.out.own e).2; omega⟩
        have hnw := HN8.out.kept hK84 (fun x hx => ⟨(hQX x hx).1, by simp⟩)
        have hvw := HV8.out.kept hK84 (fun x hx => ⟨(hQX x hx).1, by simp⟩)
        obtain ⟨GT, cs, h1, h2, h3, h4, h5, h6⟩ := (HTW.out.kept (hKrW.mono (by simp)) hB6).ex
        have hst := Rg.start (T := 4) (.bool told8) [.int .i64 v8.k, .int .i64 v8.i, .int .i64 v8.g, .float .f64 v8.r, .string v8.s, .slice kb8 v8.keys.length kd8, .slice ab8 v8.kids.len capb8] h1 h2 h4 (by have := hK.size; have := hKrW.size; omega : w6.heap.size ≤ W4.heap.size)
        have hC8 : ∀ W, Kept (u8.ownBlock.toList ++ u9.ownBlock.toList ++ [w5.heap.size]) W4 W → (W.cell? ⟨w8.heap.size, 0, none⟩ = some (.int .i64 8) ∧ W.cell? ⟨w8.heap.size, 1, none⟩ = some (.int .i64 i8) ∧ W.cell? ⟨w8.heap.size, 2, none⟩ = some (.int .i64 g8) ∧ W.cell? ⟨w8.heap.size, 3, none⟩ = some (.float .f64 r8) ∧
            W.cell? ⟨w8.heap.size, 4, none⟩ = some (.string s8) ∧ W.cell? ⟨w8.heap.size, 5, none⟩ = some (.slice ka8 d8.keys.length kc8) ∧ W.cell? ⟨w8.heap.size, 6, none⟩ = some (.slice a8 d8.kids.len cap8)) ∧ (W.cell? ⟨w8.heap.size + 1, 0, none⟩ = some (.int .i64 v8.k) ∧ W.cell? ⟨w8.heap.size + 1, 1, none⟩ = some (.int .i64 v8.i) ∧ W.cell? ⟨w8.heap.size + 1, 2, none⟩ = some (.int .i64 v8.g) ∧ W.cell? ⟨w8.heap.size + 1, 3, none⟩ = some (.float .f64 v8.r) ∧
            W.cell? ⟨w8.heap.size + 1, 4, none⟩ = some (.string v8.s) ∧ W.cell? ⟨w8.heap.size + 1, 5, none⟩ = some (.slice kb8 v8.keys.length kd8) ∧ W.cell? ⟨w8.heap.size + 1, 6, none⟩ = some (.slice ab8 v8.kids.len capb8)) := fun W hW => by
          have hl : ∀ x ∈ u8.ownBlock.toList ++ u9.ownBlock.toList ++ [w5.heap.size], x < w8.heap.size := fun x hx => by
            rcases List.mem_append.1 hx with h | h
            · have := (HTW.out.own (hge x h)).2; omega
            · have : x = w5.heap.size := by simpa using h
              omega
          have e13 := (hW.block w8.heap.size (by omega) (fun hm => by have := hl _ hm; omega)).trans hP13
          have e15 := (hW.block (w8.heap.size + 1) (by omega) (fun hm => by have := hl _ hm; omega)).trans hP15
          exact ⟨(seven e13).1, (seven e15).1⟩
        have hC7 : ∀ W, Kept (u8.ownBlock.toList ++ u9.ownBlock.toList) W4 W → (W.cell? ⟨w8.heap.size, 0, none⟩ = some (.int .i64 8) ∧ W.cell? ⟨w8.heap.size, 1, none⟩ = some (.int .i64 i8) ∧ W.cell? ⟨w8.heap.size, 2, none⟩ = some (.int .i64 g8) ∧ W.cell? ⟨w8.heap.size, 3, none⟩ = some (.float .f64 r8) ∧
            W.cell? ⟨w8.heap.size, 4, none⟩ = some (.string s8) ∧ W.cell? ⟨w8.heap.size, 5, none⟩ = some (.slice ka8 d8.keys.length kc8) ∧ W.cell? ⟨w8.heap.size, 6, none⟩ = some (.slice a8 d8.kids.len cap8)) ∧ (W.cell? ⟨w8.heap.size + 1, 0, none⟩ = some (.int .i64 v8.k) ∧ W.cell? ⟨w8.heap.size + 1, 1, none⟩ = some (.int .i64 v8.i) ∧ W.cell? ⟨w8.heap.size + 1, 2, none⟩ = some (.int .i64 v8.g) ∧ W.cell? ⟨w8.heap.size + 1, 3, none⟩ = some (.float .f64 v8.r) ∧
            W.cell? ⟨w8.heap.size + 1, 4, none⟩ = some (.string v8.s) ∧ W.cell? ⟨w8.heap.size + 1, 5, none⟩ = some (.slice kb8 v8.keys.length kd8) ∧ W.cell? ⟨w8.heap.size + 1, 6, none⟩ = some (.slice ab8 v8.kids.len capb8)) := fun W hW => hC8 W (hW.mono fun x hx _ => List.mem_append_left _ hx)
        have hA9' : ∀ W, Kept (u8.ownBlock.toList ++ u9.ownBlock.toList) W4 W → W.heap[w5.heap.size]? = some (.cells #[.int .i64 8, .int .i64 i9, .int .i64 g9, .float .f64 r9, .string s9, .slice ka9 (d j).keys.length kc9, .slice a9 (d j).kids.len cap9] 26 (0, 0)) := fun W hW =>
          (hW.block _ (lt_of_block hA4) (fun hm => by have := (HTW.out.own (hge _ hm)).1; omega)).trans hA4
        have hbsl : bs.length ≤ 2147483647 := by have := HBL.out; omega
        have HS84 := Lib.hid hs84; have HC7 := Lib.hid hC7; have HC8 := Lib.hid hC8; have HA9 := Lib.hid hA9'; have HF3 := Lib.hid h3; have HG5 := Lib.hid h5; have HQX := Lib.hid hQX; have HNW := Lib.hid hnw; have HVW := Lib.hid hvw; clear hs84 hC7 hC8 hA9' h3 h5 h6 h1 h2 h4 hQX hnw hvw hP13 hP15 hA4
        refine wp_region_noPanic ?_
        refine wp_region_T (C := fun W => (W.cell? ⟨w8.heap.size, 0, none⟩ = some (.int .i64 8) ∧ W.cell? ⟨w8.heap.size, 1, none⟩ = some (.int .i64 i8) ∧ W.cell? ⟨w8.heap.size, 2, none⟩ = some (.int .i64 g8) ∧ W.cell? ⟨w8.heap.size, 3, none⟩ = some (.float .f64 r8) ∧
            W.cell? ⟨w8.heap.size, 4, none⟩ = some (.string s8) ∧ W.cell? ⟨w8.heap.size, 5, none⟩ = some (.slice ka8 d8.keys.length kc8) ∧ W.cell? ⟨w8.heap.size, 6, none⟩ = some (.slice a8 d8.kids.len cap8)) ∧ (W.cell? ⟨w8.heap.size + 1, 0, none⟩ = some (.int .i64 v8.k) ∧ W.cell? ⟨w8.heap.size + 1, 1, none⟩ = some (.int .i64 v8.i) ∧ W.cell? ⟨w8.heap.size + 1, 2, none⟩ = some (.int .i64 v8.g) ∧ W.cell? ⟨w8.heap.size + 1, 3, none⟩ = some (.float .f64 v8.r) ∧
            W.cell? ⟨w8.heap.size + 1, 4, none⟩ = some (.string v8.s) ∧ W.cell? ⟨w8.heap.size + 1, 5, none⟩ = some (.slice kb8 v8.keys.length kd8) ∧ W.cell? ⟨w8.heap.size + 1, 6, none⟩ = some (.slice ab8 v8.kids.len capb8))) (D := fun _ => True) (st := 100) (by kernel_rfl) ⟨HC7.out _ (Kept.refl _ _).drew, fun _ => trivial⟩ (fun hH => ?_)
        refine wpT_takeC (i := 0) (v := ?_) rfl (by kernel_rfl) (by kernel_rfl) (by kernel_rfl) (by kernel_rfl) (by kernel_rfl) (fun _ _ _ h => h) (Or.inl ⟨by rfl, ?_⟩) (by assumption) ?_
        rotate_left 1
        · intro W hSw
          (try dsimp only at hSw)
          go_simp
          (try with_reducible rfl)
        (try simp only [Act.put, List.getElem_toArray, List.getElem_cons_zero, List.setIfInBounds_toArray, List.set_cons_zero, List.set_cons_succ])
        refine wpT_takeC (i := 1) (v := ?_) rfl (by kernel_rfl) (by kernel_rfl) (by kernel_rfl) (by kernel_rfl) (by kernel_rfl) (fun _ _ _ h => h) (Or.inl ⟨by rfl, ?_⟩) (by assumption) ?_
        rotate_left 1
        · intro W hSw
          (try dsimp only at hSw)
          go_simp
          (try with_reducible rfl)
        (try simp only [Act.put, List.getElem_toArray, List.getElem_cons_succ, List.getElem_cons_zero, List.setIfInBounds_toArray, List.set_cons_zero, List.set_cons_succ])
        refine wpT_takeC (i := 2) (v := ?_) rfl (by kernel_rfl) (by kernel_rfl) (by kernel_rfl) (by kernel_rfl) (by kernel_rfl) (fun _ _ _ h => h) (Or.inl ⟨by rfl, ?_⟩) (by assumption) ?_
        rotate_left 1
        · intro W hSw
          (try dsimp only at hSw)
          go_simp
          (try with_reducible rfl)
        (try simp only [Act.put, List.getElem_toArray, List.getElem_cons_succ, List.getElem_cons_zero, List.setIfInBounds_toArray, List.set_cons_zero, List.set_cons_succ])
        refine wpT_takeC (i := 5) (v := ?_) rfl (by kernel_rfl) (by kernel_rfl) (by kernel_rfl) (by kernel_rfl) (by kernel_rfl) (fun _ _ _ h => h) (Or.inl ⟨by rfl, ?_⟩) (by assumption) ?_
        rotate_left 1
        · intro W hSw
          (try dsimp only at hSw)
          go_simp
          (try with_reducible rfl)
        (try simp only [Act.put, List.getElem_toArray, List.getElem_cons_succ, List.getElem_cons_zero, List.setIfInBounds_toArray, List.set_cons_zero, List.set_cons_succ])
        refine wpT_takeC (i := 6) (v := ?_) rfl (by kernel_rfl) (by kernel_rfl) (by kernel_rfl) (by kernel_rfl) (by kernel_rfl) (fun _ _ _ h => h) (Or.inl ⟨by rfl, ?_⟩) (by assumption) ?_
        rotate_left 1
        · intro W hSw
          (try dsimp only at hSw)
          go_simp
          (try with_reducible rfl)
        (try simp only [Act.put, List.getElem_toArray, List.getElem_cons_succ, List.getElem_cons_zero, List.setIfInBounds_toArray, List.set_cons_zero, List.set_cons_succ])
        refine wpT_ready (rs := [3, 7]) (by kernel_rfl) (by simp) ?_
        refine AllT.cons rfl (fun K hK => ?_) (AllT.cons rfl (fun K hK => ?_) AllT.nil)
        · skip
          clear hH
          go_simp
          refine hK.out _ _ ⟨HC7.out _ (by repeat (first | with_reducible exact hst.keep | with_reducible exact Kept.refl _ _ | with_reducible refine Kept.drew ?_ | with_reducible refine Kept.alloc ?_ _)), fun _ => trivial⟩ (fun hH => ?_)
          clear hK K
          (try simp only [Act.put, List.getElem_toArray, List.getElem_cons_succ, List.getElem_cons_zero, List.setIfInBounds_toArray, List.set_cons_zero, List.set_cons_succ])
          refine wpT_ready (rs := [4, 7]) (by kernel_rfl) (by simp) ?_
          refine AllT.cons rfl (fun K hK => ?_) (AllT.cons rfl (fun K hK => ?_) AllT.nil)
          · skip
            clear hH
            apply stepT
            (case hgd => rfl)
            (case ho => rfl)
            (case hR => (repeat (first | with_reducible exact hst | with_reducible apply Rg.drew | apply Rg.allocK | apply Rg.allocI)))
            (case hs => rfl)
            (case hx => rfl)
            (case hb => first | rfl | (simp; done))
            (case h1 => rfl)
            (case hn => omega)
            all_goals skip
            intro g1 cap1 w9 hst
            refine hK.out _ _ ⟨HC7.out _ (by repeat (first | with_reducible exact hst.keep | with_reducible exact Kept.refl _ _ | with_reducible refine Kept.drew ?_ | with_reducible refine Kept.alloc ?_ _)), fun _ => trivial⟩ (fun hH => ?_)
            clear hK K
            (try simp only [Act.put, List.getElem_toArray, List.getElem_cons_succ, List.getElem_cons_zero, List.setIfInBounds_toArray, List.set_cons_zero, List.set_cons_succ])
            refine wpT_ready (rs := [7]) (by kernel_rfl) (by simp) ?_
            refine AllT.cons rfl (fun K hK => ?_) AllT.nil
            clear hH
            go_simp
            refine hK.out _ _ ⟨HC7.out _ (by repeat (first | with_reducible exact hst.keep | with_reducible exact Kept.refl _ _ | with_reducible refine Kept.drew ?_ | with_reducible refine Kept.alloc ?_ _)), fun _ => trivial⟩ (fun hH => ?_)
            clear hK K
            (try simp only [Act.put, List.getElem_toArray, List.getElem_cons_succ, List.getElem_cons_zero, List.setIfInBounds_toArray, List.set_cons_zero, List.set_cons_succ])
            refine wpT_ready (rs := [8]) (by kernel_rfl) (by simp) ?_
            refine AllT.cons rfl (fun K hK => ?_) AllT.nil
            clear hH
            apply stepI
            (case hgd => rfl)
            (case ho => rfl)
            (case hR => (repeat (first | with_reducible exact hst | with_reducible apply Rg.drew | apply Rg.allocK | apply Rg.allocI)))
            (case hs => rfl)
            (case hx => rfl)
            (case hb => first | rfl | (simp; done))
            (case hl => rfl)
            (case h1 => simp [Value.oneCell'])
            (case hn => omega)
            all_goals skip
            intro g2 cap2 w9 hst
            refine hK.out _ _ ⟨HC7.out _ (by repeat (first | with_reducible exact hst.keep | with_reducible exact Kept.refl _ _ | with_reducible refine Kept.drew ?_ | with_reducible refine Kept.alloc ?_ _)), fun _ => trivial⟩ (fun hH => ?_)
            clear hK K
            (try simp only [Act.put, List.getElem_toArray, List.getElem_cons_succ, List.getElem_cons_zero, List.setIfInBounds_toArray, List.set_cons_zero, List.set_cons_succ])
            have hA9 := HA9.out _ hst.keep
            obtain ⟨hcel, p0, p1, p2, p3, p4, p5, p6⟩ := seven hA9
            refine wpT_ready (rs := [9]) (by kernel_rfl) (by simp) ?_
            refine AllT.cons rfl (fun K hK => ?_) AllT.nil
            clear hH
            go_simp
            refine hK.out _ _ ⟨HC8.out _ (kept7 (b := w5.heap.size) (hst.keep.mono fun x hx _ => List.mem_append_left _ hx) (.inr (by simp)) _ _ _ _ _ _ _), fun _ => trivial⟩ (fun hH => ?_)
            clear hK K p0 p1 p2 p3 p4 p5 p6 hcel
            (try simp only [Act.put, List.getElem_toArray, List.getElem_cons_succ, List.getElem_cons_zero, List.setIfInBounds_toArray, List.set_cons_zero, List.set_cons_succ])
            refine wpT_takeC (i := 10) (v := ?_) rfl (by kernel_rfl) (by kernel_rfl) (by kernel_rfl) (by kernel_rfl) (by kernel_rfl) (fun _ _ _ h => h) (Or.inl ⟨by rfl, ?_⟩) (by assumption) ?_
            rotate_left 1
            · intro W hSw
              (try dsimp only at hSw)
              go_simp
              (try with_reducible rfl)
            (try simp only [Act.put, List.getElem_toArray, List.getElem_cons_succ, List.getElem_cons_zero, List.setIfInBounds_toArray, List.set_cons_zero, List.set_cons_succ])
            refine wpT_takeC (i := 11) (v := ?_) rfl (by kernel_rfl) (by kernel_rfl) (by kernel_rfl) (by kernel_rfl) (by kernel_rfl) (fun _ _ _ h => h) (Or.inl ⟨by rfl, ?_⟩) (by assumption) ?_
            rotate_left 1
            · intro W hSw
              (try dsimp only at hSw)
              go_simp
              (try with_reducible rfl)
            (try simp only [Act.put, List.getElem_toArray, List.getElem_cons_succ, List.getElem_cons_zero, List.setIfInBounds_toArray, List.set_cons_zero, List.set_cons_succ])
            refine wpT_done (by kernel_rfl) ?_ _
            refine NoPanic.normal ?_
            obtain ⟨W10, hW10⟩ : ∃ W10, W10 = ((((((w9.setCell ⟨w5.heap.size, 0, none⟩ (.int .i64 8)).setCell ⟨w5.heap.size, 1, none⟩ (.int .i64 i8)).setCell ⟨w5.heap.size, 2, none⟩ (.int .i64 g8)).setCell ⟨w5.heap.size, 3, none⟩ (.float .f64 r8)).setCell ⟨w5.heap.size, 4, none⟩ (.string s8)).setCell ⟨w5.heap.size, 5, none⟩ (.slice ka8 d8.keys.length kc8)).setCell ⟨w5.heap.size, 6, none⟩ (.slice a8 d8.kids.len cap8) := ⟨_, rfl⟩
            have hK10 : Kept [w5.heap.size] w9 W10 := by rw [hW10]; exact kept7 (Kept.refl _ _) (.inr (by simp)) _ _ _ _ _ _ _
            have hA10 : W10.heap[w5.heap.size]? = some (.cells #[.int .i64 8, .int .i64 i8, .int .i64 g8, .float .f64 r8, .string s8, .slice ka8 d8.keys.length kc8, .slice a8 d8.kids.len cap8] 26 (0, 0)) := by rw [hW10]; exact set7 hA9 _ _ _ _ _ _ _
            rw [← hW10]
            clear hW10 hA9
            have hKf : Kept [w5.heap.size] w6 W10 := Kept.trans (Kept.trans (Kept.trans hK hKrW (Z := [w5.heap.size]) (fun _ h => h) (by simp)) hst.keep (Z := [w5.heap.size]) (fun _ h => h) (fun x hx hl => by have := (HTW.out.own (hge x hx)).1; omega)) hK10 (fun _ h => h) (fun _ h _ => h)
            have htw := Two.more (b := w5.heap.size) (n := v8) rfl hst rfl rfl HF3.out HG5.out HVW.out (fun x hx => by have h := HQX.out x hx; have := HS84.out; exact ⟨by omega, h.2.1, fun e => h.2.2 (.inl e), fun e => h.2.2 (.inr e)⟩) (fun _ _ => trivial) (fun _ _ => trivial)
            have htw2 := htw.kept hK10 hB6
            have hn10 := (HNW.out.kept hst.keep (fun x hx => ⟨by have := HQX.out x hx; have := HS84.out; omega, fun hm => (HQX.out x hx).2.2 (hge x hm)⟩)).kept hK10 (fun x hx => ⟨by have := HQX.out x hx; have := hst.keep.size; have := HS84.out; omega, fun hm => (HQX.out x hx).2.1 (by simpa using hm)⟩)
            have hg10 : ∀ x, FrB ⟨wr.heap.size, fun x => x = w5.heap.size ∨ Own2 u8 u9 x⟩ w7.heap.size w8.heap.size x → x < W10.heap.size ∧ x ≠ w5.heap.size ∧ ¬ Own2 _ _ x := fun x hx => by
              have h := HQX.out x hx; have hs84 := HS84.out
              exact ⟨by have := hst.keep.size; have := hK10.size; omega, h.2.1, hst.own2 (by omega) (fun e => h.2.2 (.inl e)) (fun e => h.2.2 (.inr e))⟩
            have hh := HHI.out.more HBL.out HVL.out hlt HST8.out HSI.out ⟨(HNY.out.ok HB6.out.2.1 HB6.out.2.2), HB6.out.1.1.1⟩
            have hdu : dup d (j + 1) d8 (j + 1) = d8 := if_pos rfl
            have hd0' : dup d (j + 1) d8 0 = d 0 := if_neg (by omega)
            have H1 := Lib.hid hKf; have H2 := Lib.hid htw2; have H3 := Lib.hid hn10; have H4 := Lib.hid hg10; have H5 := Lib.hid hh; have H6 := Lib.hid hdu; have H7 := Lib.hid hA10; have H8 := Lib.hid hd0'; clear hKf htw htw2 hn10 hg10 hh hdu hst hA10 hd0'
            go_wp2_with fail
            exact ⟨⟨j + 1, bs ++ [told8], vs ++ [v8], dup d (j + 1) d8, i8, g8, r8, s8, ka8, kc8, a8, cap8, _, by go_num, by omega, by simp [HBL.out], by simp [HVL.out], by rw [H8.out]; exact HD00.out, H5.out, H1.out, H2.out, by rw [H6.out]; exact H7.out, HZ8.out, by rw [H6.out]; exact H3.out, H4.out⟩, by simp [intOf]; omega⟩
          · skip
            clear hH
            go_simp
            refine hK.out _ _ ⟨HC7.out _ (by repeat (first | with_reducible exact hst.keep | with_reducible exact Kept.refl _ _ | with_reducible refine Kept.drew ?_ | with_reducible refine Kept.alloc ?_ _)), fun _ => trivial⟩ (fun hH => ?_)
            clear hK K
            (try simp only [Act.put, List.getElem_toArray, List.getElem_cons_succ, List.getElem_cons_zero, List.setIfInBounds_toArray, List.set_cons_zero, List.set_cons_succ])
            refine wpT_ready (rs := [4]) (by kernel_rfl) (by simp) ?_
            refine AllT.cons rfl (fun K hK => ?_) AllT.nil
            clear hH
            apply stepT
            (case hgd => rfl)
            (case ho => rfl)
            (case hR => (repeat (first | with_reducible exact hst | with_reducible apply Rg.drew | apply Rg.allocK | apply Rg.allocI)))
            (case hs => rfl)
            (case hx => rfl)
            (case hb => first | rfl | (simp; done))
            (case h1 => rfl)
            (case hn => omega)
            all_goals skip
            intro g1 cap1 w9 hst
            refine hK.out _ _ ⟨HC7.out _ (by repeat (first | with_reducible exact hst.keep | with_reducible exact Kept.refl _ _ | with_reducible refine Kept.drew ?_ | with_reducible refine Kept.alloc ?_ _)), fun _ => trivial⟩ (fun hH => ?_)
            clear hK K
            (try simp only [Act.put, List.getElem_toArray, List.getElem_cons_succ, List.getElem_cons_zero, List.setIfInBounds_toArray, List.set_cons_zero, List.set_cons_succ])
            refine wpT_ready (rs := [8]) (by kernel_rfl) (by simp) ?_
            refine AllT.cons rfl (fun K hK => ?_) AllT.nil
            clear hH
            apply stepI
            (case hgd => rfl)
            (case ho => rfl)
            (case hR => (repeat (first | with_reducible exact hst | with_reducible apply Rg.drew | apply Rg.allocK | apply Rg.allocI)))
            (case hs => rfl)
            (case hx => rfl)
            (case hb => first | rfl | (simp; done))
            (case hl => rfl)
            (case h1 => simp [Value.oneCell'])
            (case hn => omega)
            all_goals skip
            intro g2 cap2 w9 hst
            refine hK.out _ _ ⟨HC7.out _ (by repeat (first | with_reducible exact hst.keep | with_reducible exact Kept.refl _ _ | with_reducible refine Kept.drew ?_ | with_reducible refine Kept.alloc ?_ _)), fun _ => trivial⟩ (fun hH => ?_)
            clear hK K
            (try simp only [Act.put, List.getElem_toArray, List.getElem_cons_succ, List.getElem_cons_zero, List.setIfInBounds_toArray, List.set_cons_zero, List.set_cons_succ])
            have hA9 := HA9.out _ hst.keep
            obtain ⟨hcel, p0, p1, p2, p3, p4, p5, p6⟩ := seven hA9
            refine wpT_ready (rs := [9]) (by kernel_rfl) (by simp) ?_
            refine AllT.cons rfl (fun K hK => ?_) AllT.nil
            clear hH
            go_simp
            refine hK.out _ _ ⟨HC8.out _ (kept7 (b := w5.heap.size) (hst.keep.mono fun x hx _ => List.mem_append_left _ hx) (.inr (by simp)) _ _ _ _ _ _ _), fun _ => trivial⟩ (fun hH => ?_)
            clear hK K p0 p1 p2 p3 p4 p5 p6 hcel
            (try simp only [Act.put, List.getElem_toArray, List.getElem_cons_succ, List.getElem_cons_zero, List.setIfInBounds_toArray, List.set_cons_zero, List.set_cons_succ])
            refine wpT_takeC (i := 10) (v := ?_) rfl (by kernel_rfl) (by kernel_rfl) (by kernel_rfl) (by kernel_rfl) (by kernel_rfl) (fun _ _ _ h => h) (Or.inl ⟨by rfl, ?_⟩) (by assumption) ?_
            rotate_left 1
            · intro W hSw
              (try dsimp only at hSw)
              go_simp
              (try with_reducible rfl)
            (try simp only [Act.put, List.getElem_toArray, List.getElem_cons_succ, List.getElem_cons_zero, List.setIfInBounds_toArray, List.set_cons_zero, List.set_cons_succ])
            refine wpT_takeC (i := 11) (v := ?_) rfl (by kernel_rfl) (by kernel_rfl) (by kernel_rfl) (by kernel_rfl) (by kernel_rfl) (fun _ _ _ h => h) (Or.inl ⟨by rfl, ?_⟩) (by assumption) ?_
            rotate_left 1
            · intro W hSw
              (try dsimp only at hSw)
              go_simp
              (try with_reducible rfl)
            (try simp only [Act.put, List.getElem_toArray, List.getElem_cons_succ, List.getElem_cons_zero, List.setIfInBounds_toArray, List.set_cons_zero, List.set_cons_succ])
            refine wpT_done (by kernel_rfl) ?_ _
            refine NoPanic.normal ?_
            obtain ⟨W10, hW10⟩ : ∃ W10, W10 = ((((((w9.setCell ⟨w5.heap.size, 0, none⟩ (.int .i64 8)).setCell ⟨w5.heap.size, 1, none⟩ (.int .i64 i8)).setCell ⟨w5.heap.size, 2, none⟩ (.int .i64 g8)).setCell ⟨w5.heap.size, 3, none⟩ (.float .f64 r8)).setCell ⟨w5.heap.size, 4, none⟩ (.string s8)).setCell ⟨w5.heap.size, 5, none⟩ (.slice ka8 d8.keys.length kc8)).setCell ⟨w5.heap.size, 6, none⟩ (.slice a8 d8.kids.len cap8) := ⟨_, rfl⟩
            have hK10 : Kept [w5.heap.size] w9 W10 := by rw [hW10]; exact kept7 (Kept.refl _ _) (.inr (by simp)) _ _ _ _ _ _ _
            have hA10 : W10.heap[w5.heap.size]? = some (.cells #[.int .i64 8, .int .i64 i8, .int .i64 g8, .float .f64 r8, .string s8, .slice ka8 d8.keys.length kc8, .slice a8 d8.kids.len cap8] 26 (0, 0)) := by rw [hW10]; exact set7 hA9 _ _ _ _ _ _ _
            rw [← hW10]
            clear hW10 hA9
            have hKf : Kept [w5.heap.size] w6 W10 := Kept.trans (Kept.trans (Kept.trans hK hKrW (Z := [w5.heap.size]) (fun _ h => h) (by simp)) hst.keep (Z := [w5.heap.size]) (fun _ h => h) (fun x hx hl => by have := (HTW.out.own (hge x hx)).1; omega)) hK10 (fun _ h => h) (fun _ h _ => h)
            have htw := Two.more (b := w5.heap.size) (n := v8) rfl hst rfl rfl HF3.out HG5.out HVW.out (fun x hx => by have h := HQX.out x hx; have := HS84.out; exact ⟨by omega, h.2.1, fun e => h.2.2 (.inl e), fun e => h.2.2 (.inr e)⟩) (fun _ _ => trivial) (fun _ _ => trivial)
            have htw2 := htw.kept hK10 hB6
            have hn10 := (HNW.out.kept hst.keep (fun x hx => ⟨by have := HQX.out x hx; have := HS84.out; omega, fun hm => (HQX.out x hx).2.2 (hge x hm)⟩)).kept hK10 (fun x hx => ⟨by have := HQX.out x hx; have := hst.keep.size; have := HS84.out; omega, fun hm => (HQX.out x hx).2.1 (by simpa using hm)⟩)
            have hg10 : ∀ x, FrB ⟨wr.heap.size, fun x => x = w5.heap.size ∨ Own2 u8 u9 x⟩ w7.heap.size w8.heap.size x → x < W10.heap.size ∧ x ≠ w5.heap.size ∧ ¬ Own2 _ _ x := fun x hx => by
              have h := HQX.out x hx; have hs84 := HS84.out
              exact ⟨by have := hst.keep.size; have := hK10.size; omega, h.2.1, hst.own2 (by omega) (fun e => h.2.2 (.inl e)) (fun e => h.2.2 (.inr e))⟩
            have hh := HHI.out.more HBL.out HVL.out hlt HST8.out HSI.out ⟨(HNY.out.ok HB6.out.2.1 HB6.out.2.2), HB6.out.1.1.1⟩
            have hdu : dup d (j + 1) d8 (j + 1) = d8 := if_pos rfl
            have hd0' : dup d (j + 1) d8 0 = d 0 := if_neg (by omega)
            have H1 := Lib.hid hKf; have H2 := Lib.hid htw2; have H3 := Lib.hid hn10; have H4 := Lib.hid hg10; have H5 := Lib.hid hh; have H6 := Lib.hid hdu; have H7 := Lib.hid hA10; have H8 := Lib.hid hd0'; clear hKf htw htw2 hn10 hg10 hh hdu hst hA10 hd0'
            go_wp2_with fail
            exact ⟨⟨j + 1, bs ++ [told8], vs ++ [v8], dup d (j + 1) d8, i8, g8, r8, s8, ka8, kc8, a8, cap8, _, by go_num, by omega, by simp [HBL.out], by simp [HVL.out], by rw [H8.out]; exact HD00.out, H5.out, H1.out, H2.out, by rw [H6.out]; exact H7.out, HZ8.out, by rw [H6.out]; exact H3.out, H4.out⟩, by simp [intOf]; omega⟩
        · skip
          clear hH
          go_simp
          refine hK.out _ _ ⟨HC7.out _ (by repeat (first | with_reducible exact hst.keep | with_reducible exact Kept.refl _ _ | with_reducible refine Kept.drew ?_ | with_reducible refine Kept.alloc ?_ _)), fun _ => trivial⟩ (fun hH => ?_)
          clear hK K
          (try simp only [Act.put, List.getElem_toArray, List.getElem_cons_succ, List.getElem_cons_zero, List.setIfInBounds_toArray, List.set_cons_zero, List.set_cons_succ])
          refine wpT_ready (rs := [3]) (by kernel_rfl) (by simp) ?_
          refine AllT.cons rfl (fun K hK => ?_) AllT.nil
          clear hH
          go_simp
          refine hK.out _ _ ⟨HC7.out _ (by repeat (first | with_reducible exact hst.keep | with_reducible exact Kept.refl _ _ | with_reducible refine Kept.drew ?_ | with_reducible refine Kept.alloc ?_ _)), fun _ => trivial⟩ (fun hH => ?_)
          clear hK K
          (try simp only [Act.put, List.getElem_toArray, List.getElem_cons_succ, List.getElem_cons_zero, List.setIfInBounds_toArray, List.set_cons_zero, List.set_cons_succ])
          refine wpT_ready (rs := [4]) (by kernel_rfl) (by simp) ?_
          refine AllT.cons rfl (fun K hK => ?_) AllT.nil
          clear hH
          apply stepT
          (case hgd => rfl)
          (case ho => rfl)
          (case hR => (repeat (first | with_reducible exact hst | with_reducible apply Rg.drew | apply Rg.allocK | apply Rg.allocI)))
          (case hs => rfl)
          (case hx => rfl)
          (case hb => first | rfl | (simp; done))
          (case h1 => rfl)
          (case hn => omega)
          all_goals skip
          intro g1 cap1 w9 hst
          refine hK.out _ _ ⟨HC7.out _ (by repeat (first | with_reducible exact hst.keep | with_reducible exact Kept.refl _ _ | with_reducible refine Kept.drew ?_ | with_reducible refine Kept.alloc ?_ _)), fun _ => trivial⟩ (fun hH => ?_)
          clear hK K
          (try simp only [Act.put, List.getElem_toArray, List.getElem_cons_succ, List.getElem_cons_zero, List.setIfInBounds_toArray, List.set_cons_zero, List.set_cons_succ])
          refine wpT_ready (rs := [8]) (by kernel_rfl) (by simp) ?_
          refine AllT.cons rfl (fun K hK => ?_) AllT.nil
          clear hH
          apply stepI
          (case hgd => rfl)
          (case ho => rfl)
          (case hR => (repeat (first | with_reducible exact hst | with_reducible apply Rg.drew | apply Rg.allocK | apply Rg.allocI)))
          (case hs => rfl)
          (case hx => rfl)
          (case hb => first | rfl | (simp; done))
          (case hl => rfl)
          (case h1 => simp [Value.oneCell'])
          (case hn => omega)
          all_goals skip
          intro g2 cap2 w9 hst
          refine hK.out _ _ ⟨HC7.out _ (by repeat (first | with_reducible exact hst.keep | with_reducible exact Kept.refl _ _ | with_reducible refine Kept.drew ?_ | with_reducible refine Kept.alloc ?_ _)), fun _ => trivial⟩ (fun hH => ?_)
          clear hK K
          (try simp only [Act.put, List.getElem_toArray, List.getElem_cons_succ, List.getElem_cons_zero, List.setIfInBounds_toArray, List.set_cons_zero, List.set_cons_succ])
          have hA9 := HA9.out _ hst.keep
          obtain ⟨hcel, p0, p1, p2, p3, p4, p5, p6⟩ := seven hA9
          refine wpT_ready (rs := [9]) (by kernel_rfl) (by simp) ?_
          refine AllT.cons rfl (fun K hK => ?_) AllT.nil
          clear hH
          go_simp
          refine hK.out _ _ ⟨HC8.out _ (kept7 (b := w5.heap.size) (hst.keep.mono fun x hx _ => List.mem_append_left _ hx) (.inr (by simp)) _ _ _ _ _ _ _), fun _ => trivial⟩ (fun hH => ?_)
          clear hK K p0 p1 p2 p3 p4 p5 p6 hcel
          (try simp only [Act.put, List.getElem_toArray, List.getElem_cons_succ, List.getElem_cons_zero, List.setIfInBounds_toArray, List.set_cons_zero, List.set_cons_succ])
          refine wpT_takeC (i := 10) (v := ?_) rfl (by kernel_rfl) (by kernel_rfl) (by kernel_rfl) (by kernel_rfl) (by kernel_rfl) (fun _ _ _ h => h) (Or.inl ⟨by rfl, ?_⟩) (by assumption) ?_
          rotate_left 1
          · intro W hSw
            (try dsimp only at hSw)
            go_simp
            (try with_reducible rfl)
          (try simp only [Act.put, List.getElem_toArray, List.getElem_cons_succ, List.getElem_cons_zero, List.setIfInBounds_toArray, List.set_cons_zero, List.set_cons_succ])
          refine wpT_takeC (i := 11) (v := ?_) rfl (by kernel_rfl) (by kernel_rfl) (by kernel_rfl) (by kernel_rfl) (by kernel_rfl) (fun _ _ _ h => h) (Or.inl ⟨by rfl, ?_⟩) (by assumption) ?_
          rotate_left 1
          · intro W hSw
            (try dsimp only at hSw)
            go_simp
            (try with_reducible rfl)
          (try simp only [Act.put, List.getElem_toArray, List.getElem_cons_succ, List.getElem_cons_zero, List.setIfInBounds_toArray, List.set_cons_zero, List.set_cons_succ])
          refine wpT_done (by kernel_rfl) ?_ _
          refine NoPanic.normal ?_
          obtain ⟨W10, hW10⟩ : ∃ W10, W10 = ((((((w9.setCell ⟨w5.heap.size, 0, none⟩ (.int .i64 8)).setCell ⟨w5.heap.size, 1, none⟩ (.int .i64 i8)).setCell ⟨w5.heap.size, 2, none⟩ (.int .i64 g8)).setCell ⟨w5.heap.size, 3, none⟩ (.float .f64 r8)).setCell ⟨w5.heap.size, 4, none⟩ (.string s8)).setCell ⟨w5.heap.size, 5, none⟩ (.slice ka8 d8.keys.length kc8)).setCell ⟨w5.heap.size, 6, none⟩ (.slice a8 d8.kids.len cap8) := ⟨_, rfl⟩
          have hK10 : Kept [w5.heap.size] w9 W10 := by rw [hW10]; exact kept7 (Kept.refl _ _) (.inr (by simp)) _ _ _ _ _ _ _
          have hA10 : W10.heap[w5.heap.size]? = some (.cells #[.int .i64 8, .int .i64 i8, .int .i64 g8, .float .f64 r8, .string s8, .slice ka8 d8.keys.length kc8, .slice a8 d8.kids.len cap8] 26 (0, 0)) := by rw [hW10]; exact set7 hA9 _ _ _ _ _ _ _
          rw [← hW10]
          clear hW10 hA9
          have hKf : Kept [w5.heap.size] w6 W10 := Kept.trans (Kept.trans (Kept.trans hK hKrW (Z := [w5.heap.size]) (fun _ h => h) (by simp)) hst.keep (Z := [w5.heap.size]) (fun _ h => h) (fun x hx hl => by have := (HTW.out.own (hge x hx)).1; omega)) hK10 (fun _ h => h) (fun _ h _ => h)
          have htw := Two.more (b := w5.heap.size) (n := v8) rfl hst rfl rfl HF3.out HG5.out HVW.out (fun x hx => by have h := HQX.out x hx; have := HS84.out; exact ⟨by omega, h.2.1, fun e => h.2.2 (.inl e), fun e => h.2.2 (.inr e)⟩) (fun _ _ => trivial) (fun _ _ => trivial)
          have htw2 := htw.kept hK10 hB6
          have hn10 := (HNW.out.kept hst.keep (fun x hx => ⟨by have := HQX.out x hx; have := HS84.out; omega, fun hm => (HQX.out x hx).2.2 (hge x hm)⟩)).kept hK10 (fun x hx => ⟨by have := HQX.out x hx; have := hst.keep.size; have := HS84.out; omega, fun hm => (HQX.out x hx).2.1 (by simpa using hm)⟩)
          have hg10 : ∀ x, FrB ⟨wr.heap.size, fun x => x = w5.heap.size ∨ Own2 u8 u9 x⟩ w7.heap.size w8.heap.size x → x < W10.heap.size ∧ x ≠ w5.heap.size ∧ ¬ Own2 _ _ x := fun x hx => by
            have h := HQX.out x hx; have hs84 := HS84.out
            exact ⟨by have := hst.keep.size; have := hK10.size; omega, h.2.1, hst.own2 (by omega) (fun e => h.2.2 (.inl e)) (fun e => h.2.2 (.inr e))⟩
          have hh := HHI.out.more HBL.out HVL.out hlt HST8.out HSI.out ⟨(HNY.out.ok HB6.out.2.1 HB6.out.2.2), HB6.out.1.1.1⟩
          have hdu : dup d (j + 1) d8 (j + 1) = d8 := if_pos rfl
          have hd0' : dup d (j + 1) d8 0 = d 0 := if_neg (by omega)
          have H1 := Lib.hid hKf; have H2 := Lib.hid htw2; have H3 := Lib.hid hn10; have H4 := Lib.hid hg10; have H5 := Lib.hid hh; have H6 := Lib.hid hdu; have H7 := Lib.hid hA10; have H8 := Lib.hid hd0'; clear hKf htw htw2 hn10 hg10 hh hdu hst hA10 hd0'
          go_wp2_with fail
          exact ⟨⟨j + 1, bs ++ [told8], vs ++ [v8], dup d (j + 1) d8, i8, g8, r8, s8, ka8, kc8, a8, cap8, _, by go_num, by omega, by simp [HBL.out], by simp [HVL.out], by rw [H8.out]; exact HD00.out, H5.out, H1.out, H2.out, by rw [H6.out]; exact H7.out, HZ8.out, by rw [H6.out]; exact H3.out, H4.out⟩, by simp [intOf]; omega⟩
    · have hjl : j = ss.length := by omega
      subst hjl
      obtain ⟨tb, tc, va, vc, rfl, rfl, hrow, hkids⟩ := HTW.out.out2 HBL.out HVL.out (by omega)
      have hcall : Calls Tryz.prog 18 #[.agg #[.int .i64 8, .int .i64 i, .int .i64 g, .float .f64 r, .string s, .slice ka keys.length kc, .slice a kids.len cap], .slice sa ss.length sc] wr (DqE ss d (tlf bs) (vlf vs) wr) := by
        have h := dictsteps ss d (tlf bs) (vlf vs) i g r s N ka kc a cap sa sc wr (by rw [HD00.out]; exact HD0.out) HHI.out (by rw [HD00.out]; exact HN.out.kept hKw (ltk hN (by simp))) (HS.out.kept hKw (ltk hN (by simp))) (Nat.le_trans hN hKw.size) (by rw [HD00.out]; exact HKL.out) hL
        rw [HD00.out] at h
        exact h
      have HC := Lib.hid hcall; have HRO := Lib.hid hrow; have HKD := Lib.hid hkids; clear hcall hrow hkids
      have hxr := HXR.out
      obtain ⟨⟨c0, c1, c2, c3, c4, c5, c6⟩, -⟩ := seven hxr
      clear hxr
      go_wp2_with fail
      refine HC.out.mono ?_
      rintro e w9 ⟨hK9, r1, ka1, kc1, a1, cap1, kids1, bs1, vs1, tb1, tc1, va1, vc1, rfl, hn1, hr1, hsf1, hrow1, hkids1, hbl1, hres1⟩
      have HN1 := Lib.hid hn1; have HR1 := Lib.hid hr1; have HF1 := Lib.hid hsf1; have HRW1 := Lib.hid hrow1; have HKD1 := Lib.hid hkids1; have HBL1 := Lib.hid hbl1; have HRE := Lib.hid hres1; clear hn1 hr1 hsf1 hrow1 hkids1 hbl1 hres1 c0 c1 c2 c3 c4 c5 c6
      obtain ⟨W5, hW5⟩ : ∃ W5, W5 = w9.alloc (.cells #[.int .i64 8, .int .i64 0, .int .i64 0, .float .f64 r1, .string ⟨#[]⟩, .slice ka1 (d ss.length).keys.length kc1, .slice a1 kids1.len cap1] 26) := ⟨_, rfl⟩
      go_upto_region 23 with fail
      rw [← hW5]
      have hK95 : Kept [] w9 W5 := by rw [hW5]; exact (Kept.refl [] w9).alloc _
      have hP17 : W5.heap[w9.heap.size]? = some (.cells #[.int .i64 8, .int .i64 0, .int .i64 0, .float .f64 r1, .string ⟨#[]⟩, .slice ka1 (d ss.length).keys.length kc1, .slice a1 kids1.len cap1] 26 (0, 0)) := by rw [hW5]; exact heap_at rfl
      clear hW5
      have hKr5 : Kept [] wr W5 := Kept.trans hK9 hK95 (by simp) (by simp)
      have hA5 := (hKr5.block _ (lt_of_block HA.out) (by simp)).trans HA.out
      obtain ⟨⟨c0, c1, c2, c3, c4, c5, c6⟩, -⟩ := seven hP17
      obtain ⟨⟨e0, e1, e2, e3, e4, e5, e6⟩, -⟩ := seven hA5
      obtain ⟨z1, z2, z3, z4⟩ := HZ9.out
      have hwn := HN9.out.kept hKr5 (fun x hx => ⟨(HGX.out x hx).1, by simp⟩)
      have hcall : Calls Tryz.prog 15 #[.agg #[.int .i64 8, .int .i64 0, .int .i64 0, .float .f64 r1, .string ⟨#[]⟩, .slice ka1 (d ss.length).keys.length kc1, .slice a1 kids1.len cap1], .agg #[.int .i64 8, .int .i64 i9, .int .i64 g9, .float .f64 r9, .string s9, .slice ka9 (d ss.length).keys.length kc9, .slice a9 (d ss.length).kids.len cap9]] W5 (fun e w' => e = .returned (.bool true) ∧ Kept [] W5 w') := by
        subst z1 z2 z4
        refine (eq_node 8 0 0 r1 ⟨#[]⟩ (d ss.length).keys kids1) r9 (d ss.length).kids W5.heap.size ka1 kc1 a1 cap1 ka9 kc9 a9 cap9 W5 ((HN1.out.kept hK95 (fun x hx => ⟨?_, by simp⟩)).mono fun x hx => ?_) (hwn.mono fun x hx => Nat.lt_of_lt_of_le (HGX.out x hx).1 hKr5.size) (Nat.le_refl _) (feq_zero HR1.out z3) HF1.out
        · rcases hx with h | ⟨_, h⟩; omega; exact h
        · rcases hx with h | ⟨_, h⟩; omega; exact Nat.lt_of_lt_of_le h hK95.size
      have HC2 := Lib.hid hcall; clear hcall hwn z1 z2 z3 z4 hP17 hA5
      go_wp2_with fail
      refine HC2.out.mono ?_
      rintro e w10 ⟨rfl, hK10⟩
      have hKr10 : Kept [] wr w10 := Kept.trans hKr5 hK10 (by simp) (by simp)
      have hKz : Kept [] w w10 := Kept.trans hKw hKr10 (by simp) (by simp)
      have hro := HRO.out.kept hKr10 (fun x hx => ⟨hx, by simp⟩)
      have hkd := HKD.out.kept hKr10 (fun x hx => ⟨hx, by simp⟩)
      have hro1 := (HRW1.out.kept (Kept.trans hK95 hK10 (Z := []) (by simp) (by simp)) (fun x hx => ⟨by rcases hx with h | ⟨_, h⟩; omega; exact h, by simp⟩)).mono (Q := Lt w10.heap.size) fun x hx => by
        rcases hx with h | ⟨_, h⟩
        · omega
        · exact Nat.lt_of_lt_of_le h (Nat.le_trans hK95.size hK10.size)
      have hkd1 := (HKD1.out.kept (Kept.trans hK95 hK10 (Z := []) (by simp) (by simp)) (fun x hx => ⟨by rcases hx with h | ⟨_, h⟩; omega; exact h, by simp⟩)).mono (Q := Lt w10.heap.size) fun x hx => by
        rcases hx with h | ⟨_, h⟩
        · omega
        · exact Nat.lt_of_lt_of_le h (Nat.le_trans hK95.size hK10.size)
      have HRA := Lib.hid hro; have HKA := Lib.hid hkd; have HRB := Lib.hid hro1; have HKB := Lib.hid hkd1; clear hro hkd hro1 hkd1 c0 c1 c2 c3 c4 c5 c6 e0 e1 e2 e3 e4 e5 e6
      have hs10 : wr.heap.size ≤ w10.heap.size := hKr10.size
      go_wp2_with fail
      obtain ⟨wo, rfl⟩ : ∃ wo : World, wo = wr := ⟨_, rfl⟩
      go_loopw [20, 21, 134] (fun _ _ v wr => ∃ j : Nat, j ≤ ss.length ∧ v = .int .i64 j ∧ Kept [] w10 wr) (fun _ _ v _ => ss.length - (intOf v).toNat)
      case atStart => exact ⟨0, by omega, rfl, Kept.refl _ _⟩
      case round =>
        obtain ⟨j, hj2, rfl, hKq⟩ := hrel
        have hKq2 : Kept [] w wr := Kept.trans hKz hKq (by simp) (by simp)
        by_cases hlt : j < ss.length
        · obtain ⟨b', o', ka', kc', a', cap', rfl, hbN, hcs, hnode, hio, hks⟩ := (HS.out.kept hKq2 (ltk hN (by simp))).2.2 j hlt
          obtain ⟨t0, t1, t2, t3, t4, t5, t6, t7, t8⟩ := hcs
          clear hnode
          have hjb : j < bs.length := by rw [HBL.out]; exact hlt
          have hjb1 : j < bs1.length := by rw [HBL1.out]; exact hlt
          have hjv : j < vs.length := by rw [HVL.out]; exact hlt
          have hjv1 : j < vs1.length := by rw [← HRE.out.len, HBL1.out]; exact hlt
          obtain ⟨pb, po, rfl, hpb, hpc⟩ := (HRB.out.kept hKq (ltk (Nat.le_refl _) (by simp))) j (by simpa using hjb1)
          obtain ⟨qb, qo, rfl, hqb, hqc⟩ := (HRA.out.kept hKq (fun x hx => ⟨Nat.lt_of_lt_of_le hx hs10, by simp⟩)) j (by simpa using hjb)
          simp only [List.getElem_map] at hpc hqc
          have hbq : ss[j].op ≠ 2 → bs1[j] = bs[j] := fun h => by rw [HRE.out.say j hlt hjb1 h]; simp [tlf, List.getD, hjb]
          have hval : ss[j].op = 2 ∨ ss[j].op = 3 ∨ ss[j].op = 5 → SameN vs1[j] vs[j] := fun h => by have := HRE.out.val j hlt hjv1 h; simpa [vlf, List.getD, hjv] using this
          obtain ⟨x1, hx1⟩ : ∃ x, x = bs1[j] := ⟨_, rfl⟩
          obtain ⟨x2, hx2⟩ : ∃ x, x = bs[j] := ⟨_, rfl⟩
          rw [← hx1] at hpc hbq
          rw [← hx2] at hqc hbq
          clear hx1 hx2
          obtain ⟨nb, no, kn, iN, gn, rn, sn, keysn, kidsn, kan, kcn, an, capn, rfl, hnb, hdn, hcn, hnn⟩ := (HKB.out.kept hKq (ltk (Nat.le_refl _) (by simp))).at (j := j) (by rw [F.of_len]; exact hjv1)
          obtain ⟨mb, mo, km, im, gm, rm, sm, keysm, kidsm, kam, kcm, am, capm, rfl, hmb, hdm, hcm, hnm⟩ := (HKA.out.kept hKq (fun x hx => ⟨Nat.lt_of_lt_of_le hx hs10, by simp⟩)).at (j := j) (by rw [F.of_len]; exact hjv)
          have e1 := F.drop_nd hdn
          have e2 := F.drop_nd hdm
          rw [F.of_nd, List.getElem?_eq_getElem hjv1] at e1
          rw [F.of_nd, List.getElem?_eq_getElem hjv] at e2
          rw [Option.some.inj e1, Option.some.inj e2] at hval
          clear e1 e2 hdn hdm
          have hcall : ss[j].op = 2 ∨ ss[j].op = 3 ∨ ss[j].op = 5 → ∀ W, Kept [] wr W → Calls Tryz.prog 15 #[.agg #[.int .i64 kn, .int .i64 iN, .int .i64 gn, .float .f64 rn, .string sn, .slice kan keysn.length kcn, .slice an kidsn.len capn], .agg #[.int .i64 km, .int .i64 im, .int .i64 gm, .float .f64 rm, .string sm, .slice kam keysm.length kcm, .slice am kidsm.len capm]] W (fun e w' => e = .returned (.bool true) ∧ Kept [] W w') := fun h W hW => by
            obtain ⟨q1, q2, q3, q4, q5, q6, q7⟩ := hval h
            dsimp only at q1 q2 q3 q4 q5 q6 q7
            subst q1 q2 q3 q5 q6
            exact (eq_node kn iN gn rn sn keysn kidsn) rm kidsm w10.heap.size kan kcn an capn kam kcm am capm W (hnn.kept hW (ltk hKq.size (by simp))) ((hnm.mono fun x hx => Nat.lt_of_lt_of_le hx hs10).kept hW (ltk hKq.size (by simp))) (Nat.le_trans hKq.size hW.size) q4 q7
          have HCL := Lib.hid hcall; clear hcall hval hnn hnm
          rw [Nat.mul_comm 7 j] at hcn hcm
          obtain ⟨n0, n1, n2, n3, n4, n5, n6⟩ := hcn
          obtain ⟨m0, m1, m2, m3, m4, m5, m6⟩ := hcm
          obtain ⟨W1, hW1⟩ : ∃ W1, W1 = wr.alloc (.cells #[.int .i64 ss[j].op, .string ss[j].key, .int .i64 ss[j].y.k, .int .i64 ss[j].y.i, .int .i64 ss[j].y.g, .float .f64 ss[j].y.r, .string ss[j].y.s, .slice ka' ss[j].y.keys.length kc', .slice a' ss[j].y.kids.len cap'] 45) := ⟨_, rfl⟩
          have hKv1 : Kept [] wr W1 := by rw [hW1]; exact (Kept.refl [] wr).alloc _
          have hTB : W1.heap[wr.heap.size]? = some (.cells #[.int .i64 ss[j].op, .string ss[j].key, .int .i64 ss[j].y.k, .int .i64 ss[j].y.i, .int .i64 ss[j].y.g, .float .f64 ss[j].y.r, .string ss[j].y.s, .slice ka' ss[j].y.keys.length kc', .slice a' ss[j].y.kids.len cap'] 45 (0, 0)) := by rw [hW1]; exact heap_at rfl
          have hsq := hKq.size
          have lift : ∀ b p, b < wr.heap.size → W1.cell? ⟨b, p, none⟩ = wr.cell? ⟨b, p, none⟩ := fun b p h => hKv1.cell h (by simp)
          have hpb' : pb < wr.heap.size := Nat.lt_of_lt_of_le hpb hsq
          have hqb' : qb < wr.heap.size := Nat.lt_of_lt_of_le hqb (Nat.le_trans hs10 hsq)
          have hnb' : nb < wr.heap.size := Nat.lt_of_lt_of_le hnb hsq
          have hmb' : mb < wr.heap.size := Nat.lt_of_lt_of_le hmb (Nat.le_trans hs10 hsq)
          rw [← lift _ _ hpb'] at hpc
          rw [← lift _ _ hqb'] at hqc
          rw [← lift _ _ hnb'] at n0 n1 n2 n3 n4 n5 n6
          rw [← lift _ _ hmb'] at m0 m1 m2 m3 m4 m5 m6
          clear lift hpb hqb hnb hmb
          go_upto_region 28 with fail
          rw [← hW1]
          clear hW1 t0 t1 t2 t3 t4 t5 t6 t7 t8
          obtain ⟨t0, t1, t2, t3, t4, t5, t6, t7, t8⟩ := nine hTB
          clear hTB
          by_cases hop2 : ss[j].op = 2
          · have zo2 : (ss[j].op == 2) = true := beq_iff_eq.2 hop2
            have zo2' : (ss[j].op != 2) = false := by rw [hop2]; rfl
            have HCX := Lib.hid (HCL.out (.inl hop2)); clear hop2 hbq
            by_cases h12 : x1 = x2
            · subst h12
              go_wp2_with fail
              go_quiet (fail)
              have hKn : Kept [] W1 (W1.drewN nq) := (Kept.refl [] W1).drewN nq
              have tr : ∀ b p, (W1.drewN nq).cell? ⟨b, p, none⟩ = W1.cell? ⟨b, p, none⟩ := fun b p => by rw [World.cell?_drewN]
              rw [← tr] at t0 n0 n1 n2 n3 n4 n5 n6 m0 m1 m2 m3 m4 m5 m6
              clear tr hpc hqc t1 t2 t3 t4 t5 t6 t7 t8
              generalize W1.drewN nq = W2 at hKn t0 n0 n1 n2 n3 n4 n5 n6 m0 m1 m2 m3 m4 m5 m6 ⊢
              go_wp2_with fail
              go_still_tail 22, (by kernel_rfl)
              have hKd : Kept [] W1 W2.drew := hKn.drew
              change wpList _ _ _ _ _ W2.drew
              generalize W2.drew = wd at hKd ⊢
              go_wp2_with fail
              refine (HCX.out _ (Kept.trans hKv1 hKd (by simp) (by simp))).mono ?_
              rintro e w2 ⟨rfl, hK2⟩
              go_wp2_with fail
              exact ⟨⟨j + 1, by omega, by go_num, Kept.trans (Kept.trans (Z := []) hKq (Kept.trans hKv1 hKd (Z := []) (by simp) (by simp)) (by simp) (by simp)) hK2 (by simp) (by simp)⟩, by simp [intOf]; omega⟩
            · have h12' : x2 = !x1 := by cases x1 <;> cases x2 <;> simp_all
              clear h12
              subst h12'
              go_wp2_with fail
              go_quiet (fail)
              have hKn : Kept [] W1 (W1.drewN nq) := (Kept.refl [] W1).drewN nq
              have tr : ∀ b p, (W1.drewN nq).cell? ⟨b, p, none⟩ = W1.cell? ⟨b, p, none⟩ := fun b p => by rw [World.cell?_drewN]
              rw [← tr] at t0 n0 n1 n2 n3 n4 n5 n6 m0 m1 m2 m3 m4 m5 m6
              clear tr hpc hqc t1 t2 t3 t4 t5 t6 t7 t8
              generalize W1.drewN nq = W2 at hKn t0 n0 n1 n2 n3 n4 n5 n6 m0 m1 m2 m3 m4 m5 m6 ⊢
              go_wp2_with fail
              go_still_tail 22, (by kernel_rfl)
              have hKd : Kept [] W1 W2.drew := hKn.drew
              change wpList _ _ _ _ _ W2.drew
              generalize W2.drew = wd at hKd ⊢
              go_wp2_with fail
              refine (HCX.out _ (Kept.trans hKv1 hKd (by simp) (by simp))).mono ?_
              rintro e w2 ⟨rfl, hK2⟩
              go_wp2_with fail
              exact ⟨⟨j + 1, by omega, by go_num, Kept.trans (Kept.trans (Z := []) hKq (Kept.trans hKv1 hKd (Z := []) (by simp) (by simp)) (by simp) (by simp)) hK2 (by simp) (by simp)⟩, by simp [intOf]; omega⟩
          · have h12 := hbq hop2
            subst h12
            have zo2 : (ss[j].op == 2) = false := beq_eq_false_iff_ne.2 hop2
            have zo2' : (ss[j].op != 2) = true := bne_iff_ne.2 hop2
            clear hop2 hbq
            by_cases hop3 : ss[j].op = 3
            · have zo3 : (ss[j].op == 3) = true := beq_iff_eq.2 hop3
              have HCX := Lib.hid (HCL.out (.inr (.inl hop3))); clear hop3
              go_wp2_with fail
              go_quiet (fail)
              have hKn : Kept [] W1 (W1.drewN nq) := (Kept.refl [] W1).drewN nq
              have tr : ∀ b p, (W1.drewN nq).cell? ⟨b, p, none⟩ = W1.cell? ⟨b, p, none⟩ := fun b p => by rw [World.cell?_drewN]
              rw [← tr] at t0 n0 n1 n2 n3 n4 n5 n6 m0 m1 m2 m3 m4 m5 m6
              clear tr hpc hqc t1 t2 t3 t4 t5 t6 t7 t8
              generalize W1.drewN nq = W2 at hKn t0 n0 n1 n2 n3 n4 n5 n6 m0 m1 m2 m3 m4 m5 m6 ⊢
              go_wp2_with fail
              go_still_tail 22, (by kernel_rfl)
              have hKd : Kept [] W1 W2.drew := hKn.drew
              change wpList _ _ _ _ _ W2.drew
              generalize W2.drew = wd at hKd ⊢
              go_wp2_with fail
              refine (HCX.out _ (Kept.trans hKv1 hKd (by simp) (by simp))).mono ?_
              rintro e w2 ⟨rfl, hK2⟩
              go_wp2_with fail
              exact ⟨⟨j + 1, by omega, by go_num, Kept.trans (Kept.trans (Z := []) hKq (Kept.trans hKv1 hKd (Z := []) (by simp) (by simp)) (by simp) (by simp)) hK2 (by simp) (by simp)⟩, by simp [intOf]; omega⟩
            · have zo3 : (ss[j].op == 3) = false := beq_eq_false_iff_ne.2 hop3
              clear hop3
              by_cases hop5 : ss[j].op = 5
              · have zo5 : (ss[j].op == 5) = true := beq_iff_eq.2 hop5
                have HCX := Lib.hid (HCL.out (.inr (.inr hop5))); clear hop5
                go_wp2_with fail
                go_quiet (fail)
                have hKn : Kept [] W1 (W1.drewN nq) := (Kept.refl [] W1).drewN nq
                have tr : ∀ b p, (W1.drewN nq).cell? ⟨b, p, none⟩ = W1.cell? ⟨b, p, none⟩ := fun b p => by rw [World.cell?_drewN]
                rw [← tr] at t0 n0 n1 n2 n3 n4 n5 n6 m0 m1 m2 m3 m4 m5 m6
                clear tr hpc hqc t1 t2 t3 t4 t5 t6 t7 t8
                generalize W1.drewN nq = W2 at hKn t0 n0 n1 n2 n3 n4 n5 n6 m0 m1 m2 m3 m4 m5 m6 ⊢
                go_wp2_with fail
                go_still_tail 22, (by kernel_rfl)
                have hKd : Kept [] W1 W2.drew := hKn.drew
                change wpList _ _ _ _ _ W2.drew
                generalize W2.drew = wd at hKd ⊢
                go_wp2_with fail
                refine (HCX.out _ (Kept.trans hKv1 hKd (by simp) (by simp))).mono ?_
                rintro e w2 ⟨rfl, hK2⟩
                go_wp2_with fail
                exact ⟨⟨j + 1, by omega, by go_num, Kept.trans (Kept.trans (Z := []) hKq (Kept.trans hKv1 hKd (Z := []) (by simp) (by simp)) (by simp) (by simp)) hK2 (by simp) (by simp)⟩, by simp [intOf]; omega⟩
              · have zo5 : (ss[j].op == 5) = false := beq_eq_false_iff_ne.2 hop5
                clear hop5
                go_wp2_with fail
                go_quiet (fail)
                go_wp2_with fail
                go_quiet (fail)
                go_wp2_with fail
                exact ⟨⟨j + 1, by omega, by go_num, Kept.trans (Z := []) hKq (hKv1.drewN _) (by simp) (by simp)⟩, by simp [intOf]; omega⟩
        · go_wp2_with fail
          go_ret
          exact ⟨rfl, hKq2⟩
end Go.Proofs.YtfkecmlmnhbmoaaGreatDoor
