import Derived.Test.YtfkecmlmnhbmoaaGreatDoorFk40
import Derived.Test.YtfkecmlmnhbmoaaGreatDoorFk41
import Derived.Test.YtfkecmlmnhbmoaaGreatDoorFk22
namespace Go.Proofs.YtfkecmlmnhbmoaaGreatDoor
open Go.RowKit
set_option maxRecDepth 100000 in
set_option maxHeartbeats 8000000 in
theorem atofF (s : ByteArray) (g L N : Nat) (W0 : World) (hs : NumS s g L) (ht0 : Tb N W0) (hN0 : N ≤ W0.heap.size) :
    ∃ Q : Nat → Prop, One Q ∧ ∀ w, Kept [] W0 w → Calls Tryz.prog 144 #[.string s] w fun e w' => (∃ r : Nat, e = .returned (.tuple #[.float .f64 r, .int .i64 s.size, .nilIface]) ∧ Q r) ∧ Kept [] w w' := by
  have hsz : s.size ≤ 60 := by have := hs.size; have := hs.g1; have := hs.l2; omega
  have hsz2 : 1 ≤ s.size := by have := hs.size; omega
  obtain ⟨m, x, tr, ⟨hm, hx1, hx2⟩, hR⟩ := readfF s g L hs
  obtain ⟨nd5, x5, dp5, ⟨hd5, a1, a2, a3, a4⟩, hDS⟩ := dsetF s g L hs
  have HDS := Lib.hid hDS; clear hDS
  obtain ⟨ng, hng⟩ : ∃ ng, decide (g = 1) = ng := ⟨_, rfl⟩
  rw [hng] at hR HDS
  clear hng
  have HR := Lib.hid hR; have HS := Lib.hid hs; clear hR hs
  obtain ⟨sg, hsg⟩ : ∃ sg, bi ng = sg := ⟨_, rfl⟩
  have hb := bi_01 ng
  rw [hsg] at hb
  have HB := Lib.hid hsg; clear hsg
  obtain ⟨b1, b2⟩ := hb
  by_cases hm0 : m = 0
  · subst hm0
    have hz : ∃ r : Nat, ∀ w, Kept [] W0 w → Calls Tryz.prog 144 #[.string s] w fun e w' => e = .returned (.tuple #[.float .f64 r, .int .i64 s.size, .nilIface]) ∧ Kept [] w w' := by
      apply Exists.intro
      intro w hkw
      have ht := ht0.kept hkw hN0 (by simp)
      have hN : N ≤ w.heap.size := Nat.le_trans hN0 hkw.size
      have hcb := c189
      have hext := ext_all s
      go_enter Tryz.func144, Tryz.ntmps144
      go_wp2_with fail
      refine (spcl s g L _ HS.out).mono ?_
      rintro e w' ⟨rfl, k1, rfl⟩
      go_wp2_with fail
      refine (HR.out _).mono ?_
      rintro e w' ⟨rfl, k2, rfl⟩
      have hK : Kept [] w ((w.drewN k1).drewN k2) := ((Kept.refl [] w).drewN k1).drewN k2
      generalize (w.drewN k1).drewN k2 = w1 at hK
      have ht1 := ht.kept hK hN (by simp)
      have hN1 := Nat.le_trans hN hK.size
      have hkw1 : Kept [] W0 w1 := Kept.trans hkw hK (by simp) (by simp)
      have cO := ht1.tabs.opt
      clear ht
      go_wp2_with fail
      refine (b2u _ _).mono ?_
      rintro e w' ⟨rfl, rfl⟩
      rw [HB.out]
      go_wp2_with fail
      go_ret3
      exact ⟨rfl, hK⟩
    obtain ⟨r, hz⟩ := hz
    exact ⟨fun y => y = r, one_eq _, fun w hkw => (hz w hkw).mono fun e w' h => ⟨⟨r, h.1, rfl⟩, h.2⟩⟩
  · have zm : ((m : Int) == 0) = false := beq_eq_false_iff_ne.2 (by omega)
    have hU : U (sg * 9223372036854775808) := ⟨by omega, by omega⟩
    obtain ⟨r1, hP1⟩ := parse64F m x _ N W0 ht0.tabs hN0 (by omega) (by omega) hx1 hx2 hU
    have HP1 := Lib.hid hP1; clear hP1
    cases tr
    · obtain ⟨eb, Q, hQ, hE⟩ := exact64F m x ng N W0 ht0.tabs ht0.pow hN0 hm hx1 hx2
      have HE := Lib.hid hE; clear hE
      cases eb
      · refine ⟨fun y => y = r1, one_eq _, ?_⟩
        intro w hkw
        have ht := ht0.kept hkw hN0 (by simp)
        have hN : N ≤ w.heap.size := Nat.le_trans hN0 hkw.size
        have hcb := c189
        have hext := ext_all s
        go_enter Tryz.func144, Tryz.ntmps144
        go_wp2_with fail
        refine (spcl s g L _ HS.out).mono ?_
        rintro e w' ⟨rfl, k1, rfl⟩
        go_wp2_with fail
        refine (HR.out _).mono ?_
        rintro e w' ⟨rfl, k2, rfl⟩
        have hK : Kept [] w ((w.drewN k1).drewN k2) := ((Kept.refl [] w).drewN k1).drewN k2
        generalize (w.drewN k1).drewN k2 = w1 at hK
        have ht1 := ht.kept hK hN (by simp)
        have hN1 := Nat.le_trans hN hK.size
        have hkw1 : Kept [] W0 w1 := Kept.trans hkw hK (by simp) (by simp)
        have cO := ht1.tabs.opt
        clear ht
        go_wp2_with fail
        refine (b2u _ _).mono ?_
        rintro e w' ⟨rfl, rfl⟩
        rw [HB.out]
        go_wp2_with fail
        refine (HE.out _ hkw1).mono ?_
        rintro e w' ⟨r, rfl, _, k3, rfl⟩
        have hK2 := hK.drewN k3
        have hkw2 := hkw1.drewN k3
        have ht2 := ht1.kept ((Kept.refl [] w1).drewN k3) hN1 (by simp)
        generalize w1.drewN k3 = w2 at hK2 ht2 hkw2
        go_wp2_with fail
        refine (HP1.out _ hkw2).mono ?_
        rintro e w3 ⟨rfl, hk3⟩
        go_wp2_with fail
        go_ret3
        exact ⟨⟨_, rfl, rfl⟩, Kept.trans hK2 hk3 (by simp) (by simp)⟩
      · refine ⟨Q, hQ, ?_⟩
        intro w hkw
        have ht := ht0.kept hkw hN0 (by simp)
        have hN : N ≤ w.heap.size := Nat.le_trans hN0 hkw.size
        have hcb := c189
        have hext := ext_all s
        go_enter Tryz.func144, Tryz.ntmps144
        go_wp2_with fail
        refine (spcl s g L _ HS.out).mono ?_
        rintro e w' ⟨rfl, k1, rfl⟩
        go_wp2_with fail
        refine (HR.out _).mono ?_
        rintro e w' ⟨rfl, k2, rfl⟩
        have hK : Kept [] w ((w.drewN k1).drewN k2) := ((Kept.refl [] w).drewN k1).drewN k2
        generalize (w.drewN k1).drewN k2 = w1 at hK
        have ht1 := ht.kept hK hN (by simp)
        have hN1 := Nat.le_trans hN hK.size
        have hkw1 : Kept [] W0 w1 := Kept.trans hkw hK (by simp) (by simp)
        have cO := ht1.tabs.opt
        clear ht
        go_wp2_with fail
        refine (b2u _ _).mono ?_
        rintro e w' ⟨rfl, rfl⟩
        rw [HB.out]
        go_wp2_with fail
        refine (HE.out _ hkw1).mono ?_
        rintro e w' ⟨r, rfl, hQr, k3, rfl⟩
        have hK2 := hK.drewN k3
        have ht2 := ht1.kept ((Kept.refl [] w1).drewN k3) hN1 (by simp)
        generalize w1.drewN k3 = w2 at hK2 ht2
        go_wp2_with fail
        go_ret3
        exact ⟨⟨_, rfl, hQr⟩, hK2⟩
    · obtain ⟨r2, hP2⟩ := parse64F (m + 1) x _ N W0 ht0.tabs hN0 (by omega) (by omega) hx1 hx2 hU
      have HP2 := Lib.hid hP2; clear hP2
      cases hc : (FloatKind.f64.format.order r1 r2 == some .eq)
      · obtain ⟨r6, hr6, hDB⟩ := dbitsF N W0 ht0.tabs ht0.powt ht0.cheat hN0 x5 nd5 dp5 ng hd5 a1 a2 a3 a4
        have HDB := Lib.hid hDB; clear hDB hd5 a1 a2 a3 a4
        have hz : ∃ r : Nat, ∀ w, Kept [] W0 w → Calls Tryz.prog 144 #[.string s] w fun e w' => e = .returned (.tuple #[.float .f64 r, .int .i64 s.size, .nilIface]) ∧ Kept [] w w' := by
          apply Exists.intro
          intro w hkw
          have ht := ht0.kept hkw hN0 (by simp)
          have hN : N ≤ w.heap.size := Nat.le_trans hN0 hkw.size
          have hcb := c189
          have hext := ext_all s
          go_enter Tryz.func144, Tryz.ntmps144
          go_wp2_with fail
          refine (spcl s g L _ HS.out).mono ?_
          rintro e w' ⟨rfl, k1, rfl⟩
          go_wp2_with fail
          refine (HR.out _).mono ?_
          rintro e w' ⟨rfl, k2, rfl⟩
          have hK : Kept [] w ((w.drewN k1).drewN k2) := ((Kept.refl [] w).drewN k1).drewN k2
          generalize (w.drewN k1).drewN k2 = w1 at hK
          have ht1 := ht.kept hK hN (by simp)
          have hN1 := Nat.le_trans hN hK.size
          have hkw1 : Kept [] W0 w1 := Kept.trans hkw hK (by simp) (by simp)
          have cO := ht1.tabs.opt
          clear ht
          go_wp2_with fail
          refine (b2u _ _).mono ?_
          rintro e w' ⟨rfl, rfl⟩
          rw [HB.out]
          go_wp2_with fail
          refine (HP1.out _ hkw1).mono ?_
          rintro e w3 ⟨rfl, hk3⟩
          have hK2 := Kept.trans (Z := []) hK hk3 (by simp) (by simp)
          have ht2 := ht1.kept hk3 hN1 (by simp)
          have hN2 : N ≤ w3.heap.size := Nat.le_trans hN hK2.size
          have hkw3 : Kept [] W0 w3 := Kept.trans hkw1 hk3 (by simp) (by simp)
          go_wp2_with fail
          rw [show ((m : Int) + 1) = ((m + 1 : Nat) : Int) by omega]
          refine (HP2.out _ hkw3).mono ?_
          rintro e w4 ⟨rfl, hk4⟩
          have hK3 := Kept.trans (Z := []) hK2 hk4 (by simp) (by simp)
          have ht3 := ht2.kept hk4 hN2 (by simp)
          have hN3 : N ≤ w4.heap.size := Nat.le_trans hN hK3.size
          have hkw4 : Kept [] W0 w4 := Kept.trans hkw3 hk4 (by simp) (by simp)
          go_wp2_with fail
          refine (HDS.out w4.heap.size _ (dec0 (heap_at rfl))).mono ?_
          rintro e w5 ⟨rfl, hk5, hD5⟩
          have hk45 : Kept [w4.heap.size] w4 w5 := Kept.trans ((Kept.refl [] w4).alloc _) hk5 (by simp) (fun _ h _ => h)
          have hK5 : Kept [] w w5 := Kept.trans hK3 hk45 (by simp) (fun y hy hl => by have := hK3.size; simp at hy; omega)
          have hkw5 : Kept [] W0 w5 := Kept.trans hkw hK5 (by simp) (by simp)
          go_wp2_with fail
          refine (HDB.out w4.heap.size w5 hkw5 hkw4.size hD5).mono ?_
          rintro e w6 ⟨rfl, hk6⟩
          have hK6 : Kept [] w w6 := Kept.trans hK5 hk6 (by simp) (fun y hy hl => by have := hK3.size; simp at hy; omega)
          go_wp2_with fail
          go_ret3
          exact ⟨rfl, hK6⟩
        obtain ⟨r, hz⟩ := hz
        exact ⟨fun y => y = r, one_eq _, fun w hkw => (hz w hkw).mono fun e w' h => ⟨⟨r, h.1, rfl⟩, h.2⟩⟩
      · refine ⟨fun y => y = r1, one_eq _, ?_⟩
        intro w hkw
        have ht := ht0.kept hkw hN0 (by simp)
        have hN : N ≤ w.heap.size := Nat.le_trans hN0 hkw.size
        have hcb := c189
        have hext := ext_all s
        go_enter Tryz.func144, Tryz.ntmps144
        go_wp2_with fail
        refine (spcl s g L _ HS.out).mono ?_
        rintro e w' ⟨rfl, k1, rfl⟩
        go_wp2_with fail
        refine (HR.out _).mono ?_
        rintro e w' ⟨rfl, k2, rfl⟩
        have hK : Kept [] w ((w.drewN k1).drewN k2) := ((Kept.refl [] w).drewN k1).drewN k2
        generalize (w.drewN k1).drewN k2 = w1 at hK
        have ht1 := ht.kept hK hN (by simp)
        have hN1 := Nat.le_trans hN hK.size
        have hkw1 : Kept [] W0 w1 := Kept.trans hkw hK (by simp) (by simp)
        have cO := ht1.tabs.opt
        clear ht
        go_wp2_with fail
        refine (b2u _ _).mono ?_
        rintro e w' ⟨rfl, rfl⟩
        rw [HB.out]
        go_wp2_with fail
        refine (HP1.out _ hkw1).mono ?_
        rintro e w3 ⟨rfl, hk3⟩
        have hK2 := Kept.trans (Z := []) hK hk3 (by simp) (by simp)
        have ht2 := ht1.kept hk3 hN1 (by simp)
        have hN2 : N ≤ w3.heap.size := Nat.le_trans hN hK2.size
        have hkw3 : Kept [] W0 w3 := Kept.trans hkw1 hk3 (by simp) (by simp)
        go_wp2_with fail
        rw [show ((m : Int) + 1) = ((m + 1 : Nat) : Int) by omega]
        refine (HP2.out _ hkw3).mono ?_
        rintro e w4 ⟨rfl, hk4⟩
        have hK3 := Kept.trans (Z := []) hK2 hk4 (by simp) (by simp)
        have ht3 := ht2.kept hk4 hN2 (by simp)
        have hN3 : N ≤ w4.heap.size := Nat.le_trans hN hK3.size
        have hkw4 : Kept [] W0 w4 := Kept.trans hkw3 hk4 (by simp) (by simp)
        go_wp2_with fail
        go_ret3
        exact ⟨⟨_, rfl, rfl⟩, hK3⟩
set_option maxRecDepth 100000 in
set_option maxHeartbeats 2000000 in
theorem pfloatF (s : ByteArray) (g L N : Nat) (W0 : World) (hs : NumS s g L) (ht0 : Tb N W0) (hN0 : N ≤ W0.heap.size) :
    ∃ Q : Nat → Prop, One Q ∧ ∀ w, Kept [] W0 w → Calls Tryz.prog 67 #[.string s, .int .i64 64] w fun e w' => (∃ r : Nat, e = .returned (.tuple #[.float .f64 r, .nilIface]) ∧ Q r) ∧ Kept [] w w' := by
  have hsz : s.size ≤ 60 := by have := hs.size; have := hs.g1; have := hs.l2; omega
  obtain ⟨Q, hQ, hA⟩ := atofF s g L N W0 hs ht0 hN0
  have HA := Lib.hid hA; clear hA
  refine ⟨Q, hQ, ?_⟩
  have h112 : ∀ W : World, Kept [] W0 W → Calls Tryz.prog 112 #[.string s, .int .i64 64] W fun e w' => (∃ r : Nat, e = .returned (.tuple #[.float .f64 r, .int .i64 s.size, .nilIface]) ∧ Q r) ∧ Kept [] W w' := fun W hW => by
    go_enter Tryz.func112, Tryz.ntmps112
    go_wp2_with fail
    refine (HA.out _ hW).mono ?_
    rintro e w' ⟨⟨r, rfl, hr⟩, hk⟩
    go_wp2_with fail
    go_ret3
    exact ⟨⟨_, rfl, hr⟩, hk⟩
  have h84 : ∀ W : World, Kept [] W0 W → Calls Tryz.prog 84 #[.string s, .int .i64 64] W fun e w' => (∃ r : Nat, e = .returned (.tuple #[.float .f64 r, .nilIface]) ∧ Q r) ∧ Kept [] W w' := fun W hW => by
    have H := Lib.hid h112; clear h112
    go_enter Tryz.func84, Tryz.ntmps84
    go_wp2_with fail
    refine (H.out _ hW).mono ?_
    rintro e w' ⟨⟨r, rfl, hr⟩, hk⟩
    go_wp2_with fail
    go_ret2
    exact ⟨⟨_, rfl, hr⟩, hk⟩
  intro w hkw
  have H := Lib.hid h84; clear h84 h112
  go_enter Tryz.func67, Tryz.ntmps67
  go_wp2_with fail
  refine (H.out _ hkw).mono ?_
  rintro e w' ⟨⟨r, rfl, hr⟩, hk⟩
  go_wp2_with fail
  go_ret2
  exact ⟨⟨_, rfl, hr⟩, hk⟩
end Go.Proofs.YtfkecmlmnhbmoaaGreatDoor
