import Derived.Test.YtfkecmlmnhbmoaaGreatDoorDs22
import Derived.Deep.DeepCutAuto
namespace Go.Proofs.YtfkecmlmnhbmoaaGreatDoor
open Go.RowKit
/-- The real is not nought. -/
def fne (r : Nat) : Bool := FloatKind.f64.format.order r 0 != some .eq
/-- The fields that the kind does not use are zero. -/
structure Only (k i g : Int) (r : Nat) (s : ByteArray) (nk nd : Nat) : Prop where
  i : i = 0 ∨ k = 1 ∨ k = 2 ∨ k = 9
  g : g = 0 ∨ k = 9
  r : fne r = false ∨ k = 3
  s : s.toList.isEmpty = true ∨ k = 4 ∨ k = 5 ∨ k = 6
  keys : nk = 0 ∨ k = 8
  kids : nd = 0 ∨ k = 7 ∨ k = 8
def OnlyR (k i g : Int) (r : Nat) (s : ByteArray) (nk nd : Nat) (e : Ending) : Prop := ∃ b : Bool, e = .returned (.bool b) ∧ (b = true → Only k i g r s nk nd)
def CutN (k : Int) (W : World) (s3 : Value) (wx : World) : Prop := (∃ b : Bool, s3 = .bool b ∧ (b = true → k = 1 ∨ k = 2 ∨ k = 9)) ∧ wx = W
def CutT (k : Int) (W : World) (s4 : Value) (wx : World) : Prop := (∃ b : Bool, s4 = .bool b ∧ (b = true → k = 4 ∨ k = 5 ∨ k = 6)) ∧ wx = W
def CutO (k i g : Int) (r : Nat) (s : ByteArray) (W : World) (s31 : Value) (wx : World) : Prop := (∃ b : Bool, s31 = .bool b ∧ (b = false → (i = 0 ∨ k = 1 ∨ k = 2 ∨ k = 9) ∧ (g = 0 ∨ k = 9) ∧ (fne r = false ∨ k = 3) ∧ (s.toList.isEmpty = true ∨ k = 4 ∨ k = 5 ∨ k = 6))) ∧ wx = W
set_option maxRecDepth 100000 in
set_option maxHeartbeats 8000000 in
theorem onlyw (k i g : Int) (r : Nat) (s : ByteArray) (ka : Option Addr) (nk kc : Nat) (a : Option Addr) (nd cap : Nat) (w : World) (h : Fld k i g r s) (_hnk : nk ≤ 140737488351232) (hnd : nd ≤ 140737488351232) :
    Calls Tryz.prog 41 #[.agg #[.int .i64 k, .int .i64 i, .int .i64 g, .float .f64 r, .string s, .slice ka nk kc, .slice a nd cap]] w fun e w' => OnlyR k i g r s nk nd e ∧ Kept [] w w' := by
  obtain ⟨⟨k1, k2⟩, ⟨i1, i2⟩, ⟨g1, g2⟩, r1, s1⟩ := h
  have hdis : ∀ b : Bool, b = true ∨ b = false := fun b => by cases b <;> simp
  obtain ⟨W, hW⟩ : ∃ W, W = w.alloc (.cells #[.int .i64 k, .int .i64 i, .int .i64 g, .float .f64 r, .string s, .slice ka nk kc, .slice a nd cap] 26) := ⟨_, rfl⟩
  have hK : Kept [] w W := by rw [hW]; exact (Kept.refl [] w).alloc _
  have hB : W.heap[w.heap.size]? = some (.cells #[.int .i64 k, .int .i64 i, .int .i64 g, .float .f64 r, .string s, .slice ka nk kc, .slice a nd cap] 26 (0, 0)) := by rw [hW]; exact heap_at rfl
  obtain ⟨⟨c0, c1, c2, c3, c4, c5, c6⟩, _⟩ := seven hB
  clear hdis
  have HB := Lib.hid hB; clear hB
  go_enter Tryz.func41, Tryz.ntmps41
  go_upto_region 1 with fail
  rw [← hW]
  clear hW
  go_cut [0, 3] (fun _ s3 wx => CutN k W s3 wx)
  case first =>
    go_wp2_with fail
    all_goals go_meet
    all_goals exact ⟨⟨_, rfl, fun h => by simp_all⟩, rfl⟩
  case rest =>
    obtain ⟨⟨num, rfl, hnum⟩, rfl⟩ := hcut
    go_upto_region 2 with fail
    go_cut [0, 4] (fun _ s4 wx => CutT k wc s4 wx)
    case first =>
      go_wp2_with fail
      all_goals go_meet
      all_goals exact ⟨⟨_, rfl, fun h => by simp_all⟩, rfl⟩
    case rest =>
      obtain ⟨⟨txt, rfl, htxt⟩, rfl⟩ := hcut
      go_upto_region 3 with fail
      go_cut [0, 3, 4, 31] (fun _ _ _ s31 wx => CutO k i g r s wc s31 wx)
      case first =>
        go_wp2_with fail
        all_goals go_meet
        all_goals clear c0 c1 c2 c3 c4 c5 c6 hK HB
        all_goals refine ⟨⟨_, rfl, fun h => ?_⟩, rfl⟩
        all_goals refine ⟨?_, ?_, ?_, ?_⟩
        all_goals (simp_all [fne]; done)
      case rest =>
        obtain ⟨⟨b, rfl, hb⟩, rfl⟩ := hcut
        cases b
        · have hb2 := hb rfl
          clear hb
          have HB2 := Lib.hid hb2; clear hb2
          go_wp2_with fail
          all_goals go_ret
          all_goals exact ⟨⟨_, rfl, fun h => ⟨HB2.out.1, HB2.out.2.1, HB2.out.2.2.1, HB2.out.2.2.2, by first | omega | (simp at h <;> omega), by first | omega | (simp at h <;> omega)⟩⟩, hK⟩
        · go_wp2_with fail
          go_ret
          exact ⟨⟨_, rfl, fun h => by cases h⟩, hK⟩
end Go.Proofs.YtfkecmlmnhbmoaaGreatDoor
namespace Go.Proofs.YtfkecmlmnhbmoaaGreatDoor
open Go.RowKit
def FewE (L : Nat) (w : World) (e : Ending) (w' : World) : Prop := RetB e ∧ (∃ lf : Int, w'.heap[L]? = some (.cells #[.int .i64 lf] 3 (0, 0))) ∧ Kept [L] w w'
def FewC (k i g : Int) (r : Nat) (s : ByteArray) (keys : List ByteArray) (kids : F) : Prop := ∀ (N L : Nat) (ka : Option Addr) (kc : Nat) (a : Option Addr) (cap : Nat) (lf : Int) (w : World), Node (Lt N) w k i g r s keys kids ka kc a cap → N ≤ L → w.heap[L]? = some (.cells #[.int .i64 lf] 3 (0, 0)) →
  Calls Tryz.prog 23 #[.agg #[.int .i64 k, .int .i64 i, .int .i64 g, .float .f64 r, .string s, .slice ka keys.length kc, .slice a kids.len cap], .pointer (some ⟨L, 0, none⟩)] w (FewE L w)
def FewL (L : Nat) (w0 : World) (m : Nat) (v : Value) (wr : World) : Prop := ∃ j : Nat, j ≤ m ∧ v = .int .i64 j ∧ (∃ lf : Int, wr.heap[L]? = some (.cells #[.int .i64 lf] 3 (0, 0))) ∧ Kept [L] w0 wr
set_option maxRecDepth 100000 in
set_option maxHeartbeats 8000000 in
theorem few_step (k i g : Int) (r : Nat) (s : ByteArray) (keys : List ByteArray) (kids : F) (ih : AllN FewC kids) : FewC k i g r s keys kids := by
  intro N L ka kc a cap lf w hn hNL hL
  obtain ⟨⟨⟨k1, k2⟩, ⟨i1, i2⟩, ⟨g1, g2⟩, r1, s1⟩, hkeys, hkids⟩ := hn
  have hLw := lt_of_block hL
  have hN : N ≤ w.heap.size := by omega
  have hk1 : keys.length ≤ 140737488351232 := by have := hkeys.1; have := hkeys.2.1; omega
  have hk2 : kids.len ≤ 140737488351232 := by have := hkids.1; have := hkids.2.1; omega
  obtain ⟨w0, hw0⟩ : ∃ w0, w0 = w.alloc (.cells #[.int .i64 k, .int .i64 i, .int .i64 g, .float .f64 r, .string s, .slice ka keys.length kc, .slice a kids.len cap] 26) := ⟨_, rfl⟩
  have hK0 : Kept [] w w0 := by rw [hw0]; exact (Kept.refl [] w).alloc _
  have hX : w0.heap[w.heap.size]? = some (.cells #[.int .i64 k, .int .i64 i, .int .i64 g, .float .f64 r, .string s, .slice ka keys.length kc, .slice a kids.len cap] 26 (0, 0)) := by rw [hw0]; exact heap_at rfl
  have hL0 : w0.heap[L]? = some (.cells #[.int .i64 lf] 3 (0, 0)) := (hK0.block L hLw (by simp)).trans hL
  obtain ⟨⟨c0, c1, c2, c3, c4, c5, c6⟩, _⟩ := seven hX
  have cl := one_cell hL0; have fl := one_free hL0 0
  have hkeys0 := hkeys.kept hK0 (ltk hN (by simp))
  have hkids0 := hkids.kept hK0 (ltk hN (by simp))
  have hN0 : N ≤ w0.heap.size := Nat.le_trans hN hK0.size
  have HX := Lib.hid hX; have HL := Lib.hid hL0; have HKE := Lib.hid hkeys0; have HKI := Lib.hid hkids0; clear hX hL0 hkeys hkids hkeys0 hkids0
  have HIH := Lib.hid ih; clear ih
  go_enter Tryz.func23, Tryz.ntmps23
  go_upto_region 1 with fail
  rw [← hw0]
  clear hw0 hL
  go_region
  go_wp2_with fail
  clear c0 c1 c2 c3 c4 c5 c6 cl fl
  go_loopw [6, 21] (fun _ v wr => FewL L w0 keys.length v wr) (fun _ v _ => keys.length - (intOf v).toNat)
  case atStart => exact ⟨0, by omega, rfl, ⟨_, one_set HL.out _⟩, ((Kept.refl [L] w0).set1 0 _).drew⟩
  case round =>
    obtain ⟨j, hj, rfl, ⟨lf, hL⟩, hK⟩ := hrel
    have cl := one_cell hL; have fl := one_free hL 0
    have HL2 := Lib.hid hL; clear hL
    by_cases hlt : j < keys.length
    · have hkr := (HKE.out.kept hK (ltk hN0 (by simpa using hNL))).2.2 j hlt
      obtain ⟨b, o, rfl, hbN, hc, hsz⟩ := hkr
      go_wp2_with fail
      exact ⟨⟨j + 1, by omega, by go_num, ⟨_, one_set HL2.out _⟩, hK.set1 0 _⟩, by simp [intOf]; omega⟩
    · go_wp2_with fail
      · go_ret
        exact ⟨⟨_, rfl⟩, ⟨_, HL2.out⟩, Kept.trans hK0 hK (by simp) (fun _ h _ => h)⟩
      · clear cl fl
        go_loopw [7] (FewL L w0 kids.len) (fun v _ => kids.len - (intOf v).toNat)
        case atStart => exact ⟨0, by omega, rfl, ⟨_, HL2.out⟩, hK⟩
        case round =>
          clear hj hlt hK HL2
          obtain ⟨j, hj, rfl, ⟨lf, hL⟩, hK⟩ := hrel
          have hX2 := (hK.block w.heap.size (lt_of_block HX.out) (by simp; omega)).trans HX.out
          obtain ⟨⟨_, _, _, _, _, _, c6⟩, _⟩ := seven hX2
          clear hX2
          by_cases hlt : j < kids.len
          · obtain ⟨b, o, k', i', g', r', s', keys', kids', ka', kc', a', cap', rfl, hbN, hd, hcs, hnode⟩ := (HKI.out.kept hK (ltk hN0 (by simpa using hNL))).at hlt
            rw [Nat.mul_comm 7 j] at hcs
            obtain ⟨d0, d1, d2, d3, d4, d5, d6⟩ := hcs
            have hcall := (HIH.out.at hd) N L ka' kc' a' cap' lf wr hnode hNL hL
            have HC := Lib.hid hcall; clear hcall hd hL hnode
            go_wp2_with fail
            refine HC.out.mono ?_
            rintro e w' ⟨⟨b', rfl⟩, ⟨lf', hL'⟩, hK'⟩
            have hK2 := Kept.trans (Z := [L]) hK hK' (fun _ h => h) (fun _ h _ => h)
            cases b'
            · go_wp2_with fail
              go_ret
              exact ⟨⟨_, rfl⟩, ⟨_, hL'⟩, Kept.trans hK0 hK2 (by simp) (fun _ h _ => h)⟩
            · go_wp2_with fail
              exact ⟨⟨j + 1, by omega, by go_num, ⟨_, hL'⟩, hK2⟩, by simp [intOf]; omega⟩
          · go_wp2_with fail
            go_ret
            exact ⟨⟨_, rfl⟩, ⟨_, hL⟩, Kept.trans hK0 hK (by simp) (fun _ h _ => h)⟩
theorem few_node (k i g : Int) (r : Nat) (s : ByteArray) (keys : List ByteArray) (kids : F) : FewC k i g r s keys kids := AllN.node few_step k i g r s keys kids
end Go.Proofs.YtfkecmlmnhbmoaaGreatDoor
