import Derived.Test.YtfkecmlmnhbmoaaGreatDoorDs30
import Derived.StillTailTactics
namespace Go.Proofs.YtfkecmlmnhbmoaaGreatDoor
open Go.RowKit Go.Maps
def EqC (k i g : Int) (r : Nat) (s : ByteArray) (keys : List ByteArray) (kids : F) : Prop := ∀ (r' : Nat) (kids' : F) (N : Nat) (ka : Option Addr) (kc : Nat) (a : Option Addr) (cap : Nat) (ka' : Option Addr) (kc' : Nat) (a' : Option Addr) (cap' : Nat) (w : World),
  Node (Lt N) w k i g r s keys kids ka kc a cap → Node (Lt N) w k i g r' s keys kids' ka' kc' a' cap' → N ≤ w.heap.size → feq r r' → SameF kids kids' →
  Calls Tryz.prog 15 #[.agg #[.int .i64 k, .int .i64 i, .int .i64 g, .float .f64 r, .string s, .slice ka keys.length kc, .slice a kids.len cap], .agg #[.int .i64 k, .int .i64 i, .int .i64 g, .float .f64 r', .string s, .slice ka' keys.length kc', .slice a' kids'.len cap']] w (fun e w' => e = .returned (.bool true) ∧ Kept [] w w')
set_option maxRecDepth 100000 in
set_option maxHeartbeats 4000000 in
theorem eq_step (k i g : Int) (r : Nat) (s : ByteArray) (keys : List ByteArray) (kids : F) (ih : AllN EqC kids) : EqC k i g r s keys kids := by
  intro r' kids' N ka kc a cap ka' kc' a' cap' w hn hn' hN hr hsame
  obtain ⟨⟨⟨k1, k2⟩, ⟨i1, i2⟩, ⟨g1, g2⟩, r1, s1⟩, hkeys, hkids⟩ := hn
  obtain ⟨⟨_, _, _, r1', _⟩, hkeys', hkids'⟩ := hn'
  have hk1 : keys.length ≤ 140737488351232 := by have := hkeys.1; have := hkeys.2.1; omega
  have hk2 : kids.len ≤ 140737488351232 := by have := hkids.1; have := hkids.2.1; omega
  have hlen := hsame.len
  have zr : (FloatKind.f64.format.order r r' != some .eq) = false := by unfold feq at hr; rw [hr]; rfl
  have zl : (((kids.len : Nat) : Int) != ((kids'.len : Nat) : Int)) = false := by rw [hlen]; simp
  obtain ⟨w0, hw0⟩ : ∃ w0, w0 = (w.alloc (.cells #[.int .i64 k, .int .i64 i, .int .i64 g, .float .f64 r, .string s, .slice ka keys.length kc, .slice a kids.len cap] 26)).alloc (.cells #[.int .i64 k, .int .i64 i, .int .i64 g, .float .f64 r', .string s, .slice ka' keys.length kc', .slice a' kids'.len cap'] 26) := ⟨_, rfl⟩
  have hK0 : Kept [] w w0 := by rw [hw0]; exact ((Kept.refl [] w).alloc _).alloc _
  have hX1 : w0.heap[w.heap.size]? = some (.cells #[.int .i64 k, .int .i64 i, .int .i64 g, .float .f64 r, .string s, .slice ka keys.length kc, .slice a kids.len cap] 26 (0, 0)) := by
    rw [hw0, heap_lt (by simp)]; exact heap_at rfl
  have hX2 : w0.heap[w.heap.size + 1]? = some (.cells #[.int .i64 k, .int .i64 i, .int .i64 g, .float .f64 r', .string s, .slice ka' keys.length kc', .slice a' kids'.len cap'] 26 (0, 0)) := by
    rw [hw0]; exact heap_at (by simp)
  obtain ⟨⟨c0, c1, c2, c3, c4, c5, c6⟩, _⟩ := seven hX1
  obtain ⟨⟨e0, e1, e2, e3, e4, e5, e6⟩, _⟩ := seven hX2
  have hkeys0 := hkeys.kept hK0 (ltk hN (by simp))
  have hkids0 := hkids.kept hK0 (ltk hN (by simp))
  have hkeys0' := hkeys'.kept hK0 (ltk hN (by simp))
  have hkids0' := hkids'.kept hK0 (ltk hN (by simp))
  have hN0 : N ≤ w0.heap.size := Nat.le_trans hN hK0.size
  have HX1 := Lib.hid hX1; have HX2 := Lib.hid hX2; have HKE := Lib.hid hkeys0; have HKI := Lib.hid hkids0; have HKE' := Lib.hid hkeys0'; have HKI' := Lib.hid hkids0'; have HLE := Lib.hid hlen; have HS := Lib.hid hsame; have HIH := Lib.hid ih
  clear hX1 hX2 hkeys hkids hkeys' hkids' hkeys0 hkids0 hkeys0' hkids0' hlen hsame hr ih
  go_enter Tryz.func15, Tryz.ntmps15
  go_upto_region 1 with fail
  rw [← hw0]
  clear hw0
  go_wp2_with fail
  clear c0 c1 c2 c3 c4 c5 c6 e0 e1 e2 e3 e4 e5 e6 zr zl
  go_loopw [5, 61] (fun _ v wr => ∃ j : Nat, j ≤ keys.length ∧ v = .int .i64 j ∧ Kept [] w0 wr) (fun _ v _ => keys.length - (intOf v).toNat)
  case atStart => exact ⟨0, by omega, rfl, Kept.refl _ _⟩
  case round =>
    obtain ⟨j, hj, rfl, hK⟩ := hrel
    have hKw : Kept [] w wr := Kept.trans hK0 hK (by simp) (by simp)
    have hX1 := (hK.block w.heap.size (lt_of_block HX1.out) (by simp)).trans HX1.out
    have hX2 := (hK.block (w.heap.size + 1) (lt_of_block HX2.out) (by simp)).trans HX2.out
    obtain ⟨⟨c0, c1, c2, c3, c4, c5, c6⟩, _⟩ := seven hX1
    obtain ⟨⟨e0, e1, e2, e3, e4, e5, e6⟩, _⟩ := seven hX2
    clear hX1 hX2
    by_cases hlt : j < keys.length
    · obtain ⟨b, o, rfl, hbN, hc, hsz⟩ := (HKE.out.kept hK (ltk hN0 (by simp))).2.2 j hlt
      obtain ⟨b', o', rfl, hbN', hc', hsz'⟩ := (HKE'.out.kept hK (ltk hN0 (by simp))).2.2 j hlt
      have zk : (keys[j].toList != keys[j].toList) = false := by simp
      have hlt2 : ((j : Nat) : Int) < ((keys.length : Nat) : Int) := by omega
      go_wp2_with fail
      go_quiet (fail)
      go_wp2_with fail
      exact ⟨⟨j + 1, by omega, by go_num, hK.drewN _⟩, by simp [intOf]; omega⟩
    · go_wp2_with fail
      clear c0 c1 c2 c3 c4 c5 c6 e0 e1 e2 e3 e4 e5 e6
      obtain ⟨wo, rfl⟩ : ∃ wo : World, wo = wr := ⟨_, rfl⟩
      go_loopw [6, 79] (fun _ v wr => ∃ j : Nat, j ≤ kids.len ∧ v = .int .i64 j ∧ Kept [] w0 wr) (fun _ v _ => kids.len - (intOf v).toNat)
      case atStart => exact ⟨0, by omega, rfl, hK⟩
      case round =>
        clear hK hKw hlt
        obtain ⟨j, hj, rfl, hK⟩ := hrel
        have hKw : Kept [] w wr := Kept.trans hK0 hK (by simp) (by simp)
        have hX1 := (hK.block w.heap.size (lt_of_block HX1.out) (by simp)).trans HX1.out
        have hX2 := (hK.block (w.heap.size + 1) (lt_of_block HX2.out) (by simp)).trans HX2.out
        obtain ⟨⟨c0, c1, c2, c3, c4, c5, c6⟩, _⟩ := seven hX1
        obtain ⟨⟨e0, e1, e2, e3, e4, e5, e6⟩, _⟩ := seven hX2
        clear hX1 hX2
        by_cases hlt : j < kids.len
        · obtain ⟨b, o, k', i', g', r2, s', keys', kids2, ka2, kc2, a2, cap2, rfl, hbN, hd, hcs, hnode⟩ := (HKI.out.kept hK (ltk hN0 (by simp))).at hlt
          obtain ⟨r3, kids3, rest3, hd3, hr3, hs3⟩ := HS.out.at hd
          obtain ⟨b', o', k3, i3, g3, r3', s3, keys3, kids3', ka3, kc3, a3, cap3, rfl, hbN', hd3', hcs', hnode'⟩ := (HKI'.out.kept hK (ltk hN0 (by simp))).at (j := j) (by rw [← HLE.out]; exact hlt)
          rw [hd3] at hd3'
          simp only [F.cons.injEq] at hd3'
          obtain ⟨rfl, rfl, rfl, rfl, rfl, rfl, rfl, _⟩ := hd3'
          rw [Nat.mul_comm 7 j] at hcs hcs'
          obtain ⟨d0, d1, d2, d3, d4, d5, d6⟩ := hcs
          obtain ⟨f0, f1, f2, f3, f4, f5, f6⟩ := hcs'
          have hNr : N ≤ wr.heap.size := Nat.le_trans hN hKw.size
          have hcall := fun W (hW : Kept [] wr W) => (HIH.out.at hd) r3 kids3 N ka2 kc2 a2 cap2 ka3 kc3 a3 cap3 W (hnode.kept hW (ltk hNr (by simp))) (hnode'.kept hW (ltk hNr (by simp))) (Nat.le_trans hNr hW.size) hr3 hs3
          have HC := Lib.hid hcall; clear hcall hd hd3 hnode hnode' hr3 hs3
          have hlt2 : ((j : Nat) : Int) < ((kids.len : Nat) : Int) := by omega
          have hlt3 : ((j : Nat) : Int) < ((kids'.len : Nat) : Int) := by have := HLE.out; omega
          go_wp2_with fail
          go_still_tail 10, (by kernel_rfl)
          change wpList _ _ _ _ _ wr.drew
          have hKd := (Kept.refl [] wr).drew
          generalize wr.drew = wd at hKd ⊢
          go_wp2_with fail
          refine (HC.out wd hKd).mono ?_
          rintro e w2 ⟨rfl, hK2⟩
          have hK4 : Kept [] w0 w2 := Kept.trans hK (Kept.trans (Z := []) hKd hK2 (by simp) (by simp)) (by simp) (by simp)
          go_wp2_with fail
          exact ⟨⟨j + 1, by omega, by go_num, hK4⟩, by simp [intOf]; omega⟩
        · go_wp2_with fail
          go_ret
          exact ⟨rfl, hKw⟩
theorem eq_node (k i g : Int) (r : Nat) (s : ByteArray) (keys : List ByteArray) (kids : F) : EqC k i g r s keys kids := AllN.node eq_step k i g r s keys kids
end Go.Proofs.YtfkecmlmnhbmoaaGreatDoor
