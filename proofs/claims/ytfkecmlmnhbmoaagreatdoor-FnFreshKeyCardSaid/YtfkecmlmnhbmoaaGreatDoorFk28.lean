import Derived.Test.YtfkecmlmnhbmoaaGreatDoorFk23
import Derived.Test.YtfkecmlmnhbmoaaGreatDoorFk27
namespace Go.Proofs.YtfkecmlmnhbmoaaGreatDoor
open Go.RowKit
/-- What fewIn does to a node, told ahead. -/
def FewR (k i g : Int) (r : Nat) (s : ByteArray) (keys : List ByteArray) (kids : F) (lf : Int) (p : Bool × Int) : Prop := ∀ (N L : Nat) (ka : Option Addr) (kc : Nat) (a : Option Addr) (cap : Nat) (w : World), Node (Lt N) w k i g r s keys kids ka kc a cap → N ≤ L → w.heap[L]? = some (.cells #[.int .i64 lf] 3 (0, 0)) →
  Calls Tryz.prog 23 #[.agg #[.int .i64 k, .int .i64 i, .int .i64 g, .float .f64 r, .string s, .slice ka keys.length kc, .slice a kids.len cap], .pointer (some ⟨L, 0, none⟩)] w fun e w' => e = .returned (.bool p.1) ∧ w'.heap[L]? = some (.cells #[.int .i64 p.2] 3 (0, 0)) ∧ Kept [L] w w'
def FewF (k i g : Int) (r : Nat) (s : ByteArray) (keys : List ByteArray) (kids : F) : Prop := ∀ lf : Int, ∃ p : Bool × Int, FewR k i g r s keys kids lf p
def FewN (f : F) (j : Nat) (lf : Int) (p : Bool × Int) : Prop := ∀ k i g r s keys kids, f.drop j = .cons k i g r s keys kids (f.drop (j + 1)) → FewR k i g r s keys kids lf p
theorem few_at {f : F} (h : AllN FewF f) {j : Nat} (hj : j < f.len) (lf : Int) : ∃ p, FewN f j lf p := by
  obtain ⟨k, i, g, r, s, keys, kids, hd⟩ := F.drop_lt hj
  obtain ⟨p, hp⟩ := (h.at hd) lf
  refine ⟨p, fun k' i' g' r' s' keys' kids' hd' => ?_⟩
  rw [hd] at hd'
  cases hd'
  exact hp
open Classical in
noncomputable def fewA (f : F) (j : Nat) (lf : Int) : Bool × Int := if h : ∃ p, FewN f j lf p then Classical.choose h else (true, 0)
theorem fewA_is {f : F} (h : AllN FewF f) {j : Nat} (hj : j < f.len) (lf : Int) : FewN f j lf (fewA f j lf) := by
  unfold fewA
  rw [dif_pos (few_at h hj lf)]
  exact Classical.choose_spec (few_at h hj lf)
/-- The steps over the keys, and over the parts. -/
def fk1 (keys : List ByteArray) (q : Nat × Int) : Option (Nat × Int) := if h : q.1 < keys.length then some (q.1 + 1, wrap64 (q.2 - ((keys[q.1]'h).size : Int) / 16)) else none
noncomputable def fk2 (f : F) (q : Nat × Int) : Option (Nat × Int) := if q.1 < f.len then (if (fewA f q.1 q.2).1 = true then some (q.1 + 1, (fewA f q.1 q.2).2) else none) else none
theorem fk1_ends (keys : List ByteArray) (lf : Int) : ∃ T, Tr (fk1 keys) (0, lf) T := by
  obtain ⟨T, h1, _⟩ := Tr.ends (f := fk1 keys) (fun q => keys.length - q.1) (fun _ => True) (fun a b h e => by
    unfold fk1 at e
    split at e
    · cases e; exact ⟨trivial, by dsimp only; omega⟩
    · cases e) _ (0, lf) (Nat.le_refl _) trivial
  exact ⟨T, h1⟩
theorem fk2_ends (f : F) (lf : Int) : ∃ T, Tr (fk2 f) (0, lf) T := by
  obtain ⟨T, h1, _⟩ := Tr.ends (f := fk2 f) (fun q => f.len - q.1) (fun _ => True) (fun a b h e => by
    unfold fk2 at e
    split at e
    · split at e
      · cases e; exact ⟨trivial, by dsimp only; omega⟩
      · cases e
    · cases e) _ (0, lf) (Nat.le_refl _) trivial
  exact ⟨T, h1⟩
noncomputable def fkB (f : F) (T : Nat × Int) : Bool × Int := if T.1 < f.len then (false, (fewA f T.1 T.2).2) else (true, T.2)
noncomputable def fwP (f : F) (l1 : Int) (T : Nat × Int) : Bool × Int := if l1 < 0 then (false, l1) else fkB f T
set_option maxRecDepth 100000 in
set_option maxHeartbeats 8000000 in
theorem few_stepF (k i g : Int) (r : Nat) (s : ByteArray) (keys : List ByteArray) (kids : F) (ih : AllN FewF kids) : FewF k i g r s keys kids := by
  intro lf
  obtain ⟨lf1, hlf1⟩ : ∃ lf1, wrap64 (lf - (1 + (s.size : Int) / 16)) = lf1 := ⟨_, rfl⟩
  obtain ⟨⟨T1, l1⟩, hT1⟩ := fk1_ends keys lf1
  obtain ⟨T2, hT2⟩ := fk2_ends kids l1
  refine ⟨fwP kids l1 T2, ?_⟩
  intro N L ka kc a cap w hn hNL hL
  have HT1 := Lib.hid hT1; have HT2 := Lib.hid hT2; have HLF := Lib.hid hlf1; clear hT1 hT2 hlf1
  obtain ⟨⟨⟨k1, k2⟩, ⟨i1, i2⟩, ⟨g1, g2⟩, r1, s1⟩, hkeys, hkids⟩ := hn
  have hLw := lt_of_block hL
  have hN : N ≤ w.heap.size := by omega
  have hk1 : keys.length ≤ 140737488351232 := by have := hkeys.1; have := hkeys.2.1; omega
  have hk2 : kids.len ≤ 140737488351232 := by have := hkids.1; have := hkids.2.1; omega
  obtain ⟨w0, hw0⟩ : ∃ w0, w0 = w.alloc (.cells #[.int .i64 k, .int .i64 i, .int .i64 g, .float .f64 r, .string s, .slice ka keys.length kc, .slice a kids.len cap] 26) := ⟨_, rfl⟩
  have hK0 : Kept [] w w0 := by rw [hw0]; exact (Kept.refl [] w).alloc _
  have hX : w0.heap[w.heap.size]? = some (.cells #[.int .i64 k, .int .i64 i, .int .i64 g, .float .f64 r, .string s, .slice ka keys.length kc, .slice a kids.len cap] 26 (0, 0)) := by rw [hw0]; exact heap_at rfl
  have hL0 : w0.heap[L]? = some (.cells #[.int .i64 lf] 3 (0, 0)) := (hK0.block L hLw (by simp)).trans hL
  obtain ⟨⟨c0, c1, c2, c3, c4, c5, c6⟩, _⟩ := seven hX
  have cl := one_cell hL0; have fl := one_free hL0 0
  have hkeys0 := hkeys.kept hK0 (ltk hN (by simp))
  have hkids0 := hkids.kept hK0 (ltk hN (by simp))
  have hN0 : N ≤ w0.heap.size := Nat.le_trans hN hK0.size
  have HX := Lib.hid hX; have HL := Lib.hid hL0; have HKE := Lib.hid hkeys0; have HKI := Lib.hid hkids0; clear hX hL0 hkeys hkids hkeys0 hkids0
  have HIH := Lib.hid ih; clear ih
  go_enter Tryz.func23, Tryz.ntmps23
  go_upto_region 1 with fail
  rw [← hw0]
  clear hw0 hL
  go_region
  go_wp2_with fail
  clear c0 c1 c2 c3 c4 c5 c6 cl fl
  go_loopw [6, 21] (fun _ v wr => ∃ (j : Nat) (lf : Int), j ≤ keys.length ∧ v = .int .i64 j ∧ wr.heap[L]? = some (.cells #[.int .i64 lf] 3 (0, 0)) ∧ Kept [L] w0 wr ∧ Tr (fk1 keys) (j, lf) (T1, l1)) (fun _ v _ => keys.length - (intOf v).toNat)
  case atStart => exact ⟨0, lf1, by omega, rfl, by rw [← HLF.out]; exact one_set HL.out _, ((Kept.refl [L] w0).set1 0 _).drew, HT1.out⟩
  case round =>
    obtain ⟨j, lf, hj, rfl, hL, hK, hT⟩ := hrel
    have HT := Lib.hid hT; clear hT
    have cl := one_cell hL; have fl := one_free hL 0
    have HL2 := Lib.hid hL; clear hL
    by_cases hlt : j < keys.length
    · have hkr := (HKE.out.kept hK (ltk hN0 (by simpa using hNL))).2.2 j hlt
      obtain ⟨b, o, rfl, hbN, hc, hsz⟩ := hkr
      have HN := Lib.hid (HT.out.next (show fk1 keys (j, lf) = some (j + 1, wrap64 (lf - ((keys[j]'hlt).size : Int) / 16)) from dif_pos hlt))
      go_wp2_with fail
      exact ⟨⟨j + 1, _, by omega, by go_num, one_set HL2.out _, hK.set1 0 _, HN.out⟩, by simp [intOf]; omega⟩
    · have hte := HT.out.last (show fk1 keys (j, lf) = none from dif_neg hlt)
      obtain ⟨rfl, rfl⟩ : j = T1 ∧ lf = l1 := by cases hte; exact ⟨rfl, rfl⟩
      clear hte HT
      by_cases hneg : lf < 0
      · have hpp : fwP kids lf T2 = (false, lf) := if_pos hneg
        have HPP := Lib.hid hpp; clear hpp
        go_wp2_with fail
        go_ret
        exact ⟨(by rw [HPP.out]; first | done | rfl), by rw [HPP.out]; exact HL2.out, Kept.trans hK0 hK (by simp) (fun _ h _ => h)⟩
      · have hpp : fwP kids lf T2 = fkB kids T2 := if_neg hneg
        have HPP := Lib.hid hpp; clear hpp
        go_wp2_with fail
        clear cl fl
        go_loopw [7] (fun v wr => ∃ (j : Nat) (lf : Int), j ≤ kids.len ∧ v = .int .i64 j ∧ wr.heap[L]? = some (.cells #[.int .i64 lf] 3 (0, 0)) ∧ Kept [L] w0 wr ∧ Tr (fk2 kids) (j, lf) T2) (fun v _ => kids.len - (intOf v).toNat)
        case atStart => exact ⟨0, lf, by omega, rfl, HL2.out, hK, HT2.out⟩
        case round =>
          clear hj hlt hK HL2
          obtain ⟨j, lf, hj, rfl, hL, hK, hT⟩ := hrel
          have HT := Lib.hid hT; clear hT
          have hX2 := (hK.block w.heap.size (lt_of_block HX.out) (by simp; omega)).trans HX.out
          obtain ⟨⟨_, _, _, _, _, _, c6⟩, _⟩ := seven hX2
          clear hX2
          by_cases hlt : j < kids.len
          · obtain ⟨b, o, k', i', g', r', s', keys', kids', ka', kc', a', cap', rfl, hbN, hd, hcs, hnode⟩ := (HKI.out.kept hK (ltk hN0 (by simpa using hNL))).at hlt
            rw [Nat.mul_comm 7 j] at hcs
            obtain ⟨d0, d1, d2, d3, d4, d5, d6⟩ := hcs
            obtain ⟨⟨b', lf'⟩, hp⟩ : ∃ p, fewA kids j lf = p := ⟨_, rfl⟩
            have hcall := (fewA_is HIH.out hlt lf) _ _ _ _ _ _ _ hd N L ka' kc' a' cap' wr hnode hNL hL
            rw [hp] at hcall
            have HC := Lib.hid hcall; clear hcall hd hL hnode
            cases b'
            · have hte := HT.out.last (show fk2 kids (j, lf) = none by unfold fk2; dsimp only; rw [if_pos hlt, hp]; rfl)
              have e1 : fkB kids T2 = (false, lf') := by rw [hte]; unfold fkB; dsimp only; rw [if_pos hlt, hp]
              have HE1 := Lib.hid (HPP.out.trans e1)
              clear hte e1 hp
              go_wp2_with fail
              refine HC.out.mono ?_
              rintro e w' ⟨rfl, hL', hK'⟩
              have hK2 := Kept.trans (Z := [L]) hK hK' (fun _ h => h) (fun _ h _ => h)
              go_wp2_with fail
              go_ret
              exact ⟨(by rw [HE1.out]; first | done | rfl), by rw [HE1.out]; exact hL', Kept.trans hK0 hK2 (by simp) (fun _ h _ => h)⟩
            · have HN := Lib.hid (HT.out.next (show fk2 kids (j, lf) = some (j + 1, lf') by unfold fk2; dsimp only; rw [if_pos hlt, hp]; rfl))
              clear hp
              go_wp2_with fail
              refine HC.out.mono ?_
              rintro e w' ⟨rfl, hL', hK'⟩
              have hK2 := Kept.trans (Z := [L]) hK hK' (fun _ h => h) (fun _ h _ => h)
              go_wp2_with fail
              exact ⟨⟨j + 1, _, by omega, by go_num, hL', hK2, HN.out⟩, by simp [intOf]; omega⟩
          · have hte := HT.out.last (show fk2 kids (j, lf) = none from if_neg hlt)
            have e1 : fkB kids T2 = (true, lf) := by rw [hte]; unfold fkB; dsimp only; rw [if_neg hlt]
            have HE1 := Lib.hid (HPP.out.trans e1)
            clear hte e1
            go_wp2_with fail
            go_ret
            exact ⟨(by rw [HE1.out]; first | done | rfl), by rw [HE1.out]; exact hL, Kept.trans hK0 hK (by simp) (fun _ h _ => h)⟩
theorem few_nodeF (k i g : Int) (r : Nat) (s : ByteArray) (keys : List ByteArray) (kids : F) : FewF k i g r s keys kids := AllN.node few_stepF k i g r s keys kids
end Go.Proofs.YtfkecmlmnhbmoaaGreatDoor
namespace Go.Proofs.YtfkecmlmnhbmoaaGreatDoor
open Go.RowKit
open Classical in
noncomputable def onlyB (k i g : Int) (r : Nat) (s : ByteArray) (nk nd : Nat) : Bool := decide (Only k i g r s nk nd)
theorem onlyB_true {k i g : Int} {r : Nat} {s : ByteArray} {nk nd : Nat} : onlyB k i g r s nk nd = true ↔ Only k i g r s nk nd := by classical unfold onlyB; exact decide_eq_true_iff
def CutNF (k : Int) (W : World) (s3 : Value) (wx : World) : Prop := (∃ b : Bool, s3 = .bool b ∧ (b = true ↔ k = 1 ∨ k = 2 ∨ k = 9)) ∧ wx = W
def CutTF (k : Int) (W : World) (s4 : Value) (wx : World) : Prop := (∃ b : Bool, s4 = .bool b ∧ (b = true ↔ k = 4 ∨ k = 5 ∨ k = 6)) ∧ wx = W
def CutOF (k i g : Int) (r : Nat) (s : ByteArray) (W : World) (s31 : Value) (wx : World) : Prop := (∃ b : Bool, s31 = .bool b ∧ (b = false ↔ (i = 0 ∨ k = 1 ∨ k = 2 ∨ k = 9) ∧ (g = 0 ∨ k = 9) ∧ (fne r = false ∨ k = 3) ∧ (s.toList.isEmpty = true ∨ k = 4 ∨ k = 5 ∨ k = 6))) ∧ wx = W
set_option maxRecDepth 100000 in
set_option maxHeartbeats 8000000 in
theorem onlywF (k i g : Int) (r : Nat) (s : ByteArray) (ka : Option Addr) (nk kc : Nat) (a : Option Addr) (nd cap : Nat) (w : World) (h : Fld k i g r s) (_hnk : nk ≤ 140737488351232) (hnd : nd ≤ 140737488351232) :
    Calls Tryz.prog 41 #[.agg #[.int .i64 k, .int .i64 i, .int .i64 g, .float .f64 r, .string s, .slice ka nk kc, .slice a nd cap]] w fun e w' => e = .returned (.bool (onlyB k i g r s nk nd)) ∧ Kept [] w w' := by
  obtain ⟨⟨k1, k2⟩, ⟨i1, i2⟩, ⟨g1, g2⟩, r1, s1⟩ := h
  obtain ⟨W, hW⟩ : ∃ W, W = w.alloc (.cells #[.int .i64 k, .int .i64 i, .int .i64 g, .float .f64 r, .string s, .slice ka nk kc, .slice a nd cap] 26) := ⟨_, rfl⟩
  have hK : Kept [] w W := by rw [hW]; exact (Kept.refl [] w).alloc _
  have hB : W.heap[w.heap.size]? = some (.cells #[.int .i64 k, .int .i64 i, .int .i64 g, .float .f64 r, .string s, .slice ka nk kc, .slice a nd cap] 26 (0, 0)) := by rw [hW]; exact heap_at rfl
  obtain ⟨⟨c0, c1, c2, c3, c4, c5, c6⟩, _⟩ := seven hB
  have HB := Lib.hid hB; clear hB
  go_enter Tryz.func41, Tryz.ntmps41
  go_upto_region 1 with fail
  rw [← hW]
  clear hW
  go_cut [0, 3] (fun _ s3 wx => CutNF k W s3 wx)
  case first =>
    go_wp2_with fail
    all_goals go_meet
    all_goals refine ⟨⟨_, rfl, ⟨fun h => ?_, fun h => ?_⟩⟩, rfl⟩
    all_goals first | (simp_all; done) | (rcases h with h | h | h <;> simp_all <;> done)
  case rest =>
    obtain ⟨⟨num, rfl, hnum⟩, rfl⟩ := hcut
    have HNUM := Lib.hid hnum; clear hnum
    go_upto_region 2 with fail
    go_cut [0, 4] (fun _ s4 wx => CutTF k wc s4 wx)
    case first =>
      go_wp2_with fail
      all_goals go_meet
      all_goals refine ⟨⟨_, rfl, ⟨fun h => ?_, fun h => ?_⟩⟩, rfl⟩
      all_goals first | (simp_all; done) | (rcases h with h | h | h <;> simp_all <;> done)
    case rest =>
      obtain ⟨⟨txt, rfl, htxt⟩, rfl⟩ := hcut
      have HTXT := Lib.hid htxt; clear htxt
      go_upto_region 3 with fail
      go_cut [0, 3, 4, 31] (fun _ _ _ s31 wx => CutOF k i g r s wc s31 wx)
      case first =>
        go_wp2_with fail
        all_goals go_meet
        all_goals clear c0 c1 c2 c3 c4 c5 c6 hK HB
        all_goals have hnum := HNUM.out
        all_goals have htxt := HTXT.out
        all_goals clear HNUM HTXT
        all_goals refine ⟨⟨_, rfl, ⟨fun h => ?_, fun h => ?_⟩⟩, rfl⟩
        all_goals first | (refine ⟨?_, ?_, ?_, ?_⟩ <;> simp_all [fne] <;> done) | (obtain ⟨h1, h2, h3, h4⟩ := h; simp_all [fne]; done)
      case rest =>
        obtain ⟨⟨b, rfl, hb⟩, rfl⟩ := hcut
        clear HNUM HTXT
        have HBI := Lib.hid hb; clear hb
        cases b
        · have hb2 := HBI.out.1 rfl
          clear HBI
          have HB2 := Lib.hid hb2; clear hb2
          go_wp2_with fail
          all_goals go_ret
          all_goals refine ⟨congrArg (fun b => Ending.returned (.bool b)) (Bool.eq_iff_iff.2 ⟨fun h => onlyB_true.2 ⟨HB2.out.1, HB2.out.2.1, HB2.out.2.2.1, HB2.out.2.2.2, by first | omega | (simp at h <;> omega), by first | omega | (simp at h <;> omega)⟩, fun h => ?_⟩), hK⟩
          all_goals have h1 := (onlyB_true.1 h).keys; have h2 := (onlyB_true.1 h).kids
          all_goals first | omega | (simp <;> omega)
        · have hno : onlyB k i g r s nk nd = false := by
            cases ho : onlyB k i g r s nk nd
            · rfl
            · have := onlyB_true.1 ho
              have := HBI.out.2 ⟨this.i, this.g, this.r, this.s⟩
              cases this
          have HNO := Lib.hid hno; clear hno HBI
          go_wp2_with fail
          go_ret
          exact ⟨(by rw [HNO.out]; first | done | rfl), hK⟩
end Go.Proofs.YtfkecmlmnhbmoaaGreatDoor
