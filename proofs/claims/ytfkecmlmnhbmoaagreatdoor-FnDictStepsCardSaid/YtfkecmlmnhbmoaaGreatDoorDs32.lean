import Derived.Test.YtfkecmlmnhbmoaaGreatDoorDs30
import Derived.Test.YtfkecmlmnhbmoaaGreatDoorDs31
import Derived.Sort.OwnSorted
namespace Go.Proofs.YtfkecmlmnhbmoaaGreatDoor
open Go.RowKit Go.Maps
theorem Tryz.info9 : (Tryz.prog.info? 9).map (fun i => (i.zero, i.size, i.bytes)) = some (some (.string ⟨#[]⟩), 1, 16) := by kernel_rfl
theorem pigg {α : Type} [DecidableEq α] : ∀ (S L : List α), S.Nodup → (∀ x ∈ S, x ∈ L) → S.length ≤ L.length
  | [], _, _, _ => Nat.zero_le _
  | x :: S, L, hn, h => by
    have hx := h x (by simp)
    rw [List.nodup_cons] at hn
    have := pigg S (L.erase x) hn.2 (fun y hy => (List.mem_erase_of_ne (fun e => hn.1 (by rw [← e]; exact hy))).2 (h y (by simp [hy])))
    rw [List.length_erase_of_mem hx] at this
    have := List.length_pos_of_mem hx
    simp; omega
/-- 'm[k]', a key that is there. -/
theorem lookup_rv (w : World) {ops : Array Oper} {rest : List Oper} {o : Oper} {a : Act} {Q : Exit → Act → World → Prop} (hg : o.guard = none) (m x : Operand) (hop : o.op = Op.lookup 61 m x false) (b n : Nat) (D : DataW Value)
    (hm : a.eval m = .map (some b)) (hown : w.ownsMap Tryz.prog 9 RV b n D) (key : Value) (l : Lit) (hx : a.eval x = key) (hkey : keyOf Tryz.prog 9 key = some l) (v : Value) (hat : D.atKey l (.held .nilIface) = .held v)
    (hK : wpList Tryz.prog ops Q rest (a.put o.dst v) w) : wpList Tryz.prog ops Q (o :: rest) a w := by
  refine wpList_plain hg fun K' hK' => ?_
  obtain ⟨v', ps, hrun, hv⟩ := hown.lookup law9 Tryz.underlying61 (zero66 w) (zd := .held .nilIface) (zp := []) rfl hkey
  have e : v' = v := by
    have h1 := congrArg Prod.fst (Option.some.inj hv)
    have h2 : (DataW.held v' : DataW Value) = .held v := h1.trans hat
    injection h2
  subst e
  unfold Oper.wp
  simp [execOp, hop, hm, hx, hrun, Result.andThen]
  exact hK' _ _ hK
theorem collected_len {D : DataW Value} {left : Lit → Bool} {ss : List (List UInt8)} {keys : List ByteArray} (h : Collected D left ss) (hh : ∀ s, Maps.has D (kl s) = true ↔ s ∈ keys) : ss.length ≤ keys.length := by
  have := pigg ss (keys.map fun s => s.data.toList) h.1 fun x hx => by
    have h1 := ((h.2 x).1 hx).1
    exact List.mem_map.2 ⟨⟨x.toArray⟩, (hh _).1 (by simpa [kl] using h1), by simp⟩
  simpa using this
theorem collected_all {D : DataW Value} {left : Lit → Bool} {ss : List (List UInt8)} {keys : List ByteArray} (h : Collected D left ss) (hh : ∀ s, Maps.has D (kl s) = true ↔ s ∈ keys) (hl : ∀ l, left l = false) (ha : Asc keys) : ss.mergeSort leB = keys.map fun s => s.data.toList :=
  sorted_is ha h.1 fun x => by
    rw [h.2 x, hl]
    have := hh ⟨x.toArray⟩
    simp only [kl] at this
    simpa using this
/-- What sort.Strings leaves. -/
def SoE (B : Nat) (keys : List ByteArray) (a : Option Addr) (cap : Nat) (w : World) (e : Ending) (w' : World) : Prop := e = .returned (.tuple #[]) ∧ (∃ X, (∀ x ∈ X, B ≤ x) ∧ Kept X w w') ∧ KeysIn (Fr 0 B w'.heap.size) w' a cap keys
theorem sortw (B : Nat) (keys : List ByteArray) (ss : List (List UInt8)) (a : Option Addr) (cap : Nat) (w : World) (hrow : w.ownsRow B 9 1 (.slice a ss.length cap) ss.length (ss.map encStr)) (hs : ss.mergeSort leB = keys.map fun s => s.data.toList)
    (hsz : ∀ x ∈ keys, x.size ≤ 140737488351232) (hb : keys.length * 16 ≤ 140737488355328) : Calls Tryz.prog 74 #[.slice a keys.length cap] w (SoE B keys a cap w) := by
  have hlen : ss.length = keys.length := by have := congrArg List.length hs; simpa using this
  rcases hrow.2 with ⟨hv, h0⟩ | ⟨g, cap', cur, hv, hB, hg, h1, h2, h3, h4⟩
  · obtain ⟨rfl, _, rfl⟩ : a = none ∧ ss.length = 0 ∧ cap = 0 := by simpa using hv
    have hk : keys = [] := List.length_eq_zero_iff.1 (by omega)
    subst hk
    refine (Tryz.sort_Strings_none none 0 w).mono ?_
    rintro e w' ⟨rfl, rfl⟩
    exact ⟨rfl, ⟨[], by simp, Kept.refl _ _⟩, by simp, by simp, fun i hi => by simp at hi⟩
  · obtain ⟨rfl, rfl⟩ : a = some ⟨g, 0, none⟩ ∧ cap = cap' := by simpa using hv
    rw [← hlen]
    have hc := Tryz.sort_Strings g 0 cap ss w (holds_of_block hg (by simpa using h4)) (lt_of_block hg) (by omega)
    refine hc.mono ?_
    rintro e w' ⟨rfl, n, os, hw'⟩
    rw [show (ss.mergeSort fun x y => decide (x ≤ y)) = keys.map fun s => s.data.toList from hs] at hw'
    have hown := ownsRow_sorted (w := w) (n := n) (os := os) (ss := ss) (ts := keys.map fun s => s.data.toList) (by simp [hlen]) hB hg h1 h2 h3
    have hgr := grownBy_sorted (w := w) (g := g) (n := n) (os := os) (keys.map fun s => s.data.toList).toArray
    rw [← hw'] at hown hgr
    clear hw' hc
    have hri := RowIn.of (P := Fr 0 B w'.heap.size) hown (fun b h1 h2 => .inr ⟨h1, h2⟩)
    have hxl : ((keys.map fun s => s.data.toList).map encStr).length = keys.length := by simp
    refine ⟨rfl, ⟨[g], by simpa using hB, Kept.of_grown hgr (fun k hk => by cases hk; simp)⟩, by omega, hb, fun i hi => ?_⟩
    obtain ⟨b, o, ha, hP, hcell⟩ := hri.1 i (by rw [hxl]; exact hi)
    exact ⟨b, o, ha, hP, by rw [hcell]; simp [encStr], hsz _ (List.getElem_mem hi)⟩
def TdE (keys : List ByteArray) (kids : F) (w : World) (e : Ending) (w' : World) : Prop :=
  Kept [] w w' ∧ ∃ (ka : Option Addr) (kc : Nat) (a : Option Addr) (cap : Nat) (kids' : F), e = .returned (.tuple #[.slice ka keys.length kc, .slice a kids'.len cap, .bool true]) ∧ KeysIn (Fr 0 w.heap.size w'.heap.size) w' ka kc keys ∧ Kids (Fr 0 w.heap.size w'.heap.size) w' a cap kids' ∧ SameF kids' kids
structure CoL (w : World) (b n : Nat) (D : DataW Value) (v2 : Value) (wr : World) : Prop where
  ex : ∃ (left : Lit → Bool) (cnt : Nat) (ss : List (List UInt8)), wr.ranges Tryz.prog 9 RV b w.heap.size n D left cnt ∧ Collected D left ss ∧ wr.ownsRow (w.heap.size + 1) 9 1 v2 ss.length (ss.map encStr) ∧ Kept [] w wr

set_option maxRecDepth 100000 in
set_option maxHeartbeats 8000000 in
theorem telldictw (keys : List ByteArray) (kids : F) (P : Nat → Prop) (b n : Nat) (D : DataW Value) (ys : List Value) (w : World) (hown : w.ownsMap Tryz.prog 9 RV b n D) (hmi : MapIs D keys ys) (hob : ObR P w kids ys) (hP : ∀ b, P b → b < w.heap.size) (hb : keys.length * 96 ≤ 140737488355328)
    (hasc : Asc keys) (hlen : keys.length = kids.len) (hsz : ∀ x ∈ keys, x.size ≤ 140737488351232) (hok : OkF kids) (ih : AllN TeC kids) :
    Calls Tryz.prog 53 #[.map (some b)] w (TdE keys kids w) := by
  have hbl := hown.lt
  have hhas := hmi.has
  have HOW := Lib.hid hown; have HMI := Lib.hid hmi; have HOB := Lib.hid hob; have HOK := Lib.hid hok; have HIH := Lib.hid ih; have HAS := Lib.hid hasc; have HLE := Lib.hid hlen; have HSZ := Lib.hid hsz; have HH := Lib.hid hhas; clear hmi hob hok ih hasc hlen hsz hhas
  go_enter Tryz.func53, Tryz.ntmps53
  go_wp2_with (at_range; refine wpList_range_own _ rfl _ 61 rfl 9 66 law9 Tryz.underlying61 RV b n D rfl hown ?_; intro w0 hrg0 hg0 hs0; go_frame)
  clear hown hs0
  go_loopw [2, 5] (fun v2 _ wr => CoL w b n D v2 wr) (fun _ _ wr => wr.rangeLeft b w.heap.size)
  case atStart => exact ⟨_, _, [], hrg0, Collected.start D, ⟨rfl, .inl ⟨rfl, rfl⟩⟩, Kept.of_grown hg0 (by simp)⟩
  case round =>
    clear hrg0 hg0
    obtain ⟨left, cnt, ss, hrg, hco, hrow, hK⟩ := hrel
    have HCO := Lib.hid hco; have HRW := Lib.hid hrow; clear hco hrow
    go_wp2_with (at_next; refine wpList_next_ranges _ rfl _ rfl 9 law9 RV Value.string (fun v : Value => v) (fun key l h => by obtain ⟨s, h, _⟩ := keyOf9 h; exact ⟨s, h⟩) (fun v y _ => ⟨v, rfl⟩) b w.heap.size n D _ _ rfl hrg ?_ ?_)
    · intro hc0 hl0
      have hall := collected_all HCO.out HH.out hl0 HAS.out
      have hsl : ∃ a cap, u2 = .slice a ss.length cap := by
        rcases HRW.out.2 with ⟨h, h0⟩ | ⟨g, cap, cur, h, _⟩
        · exact ⟨none, 0, by rw [h0]; exact h⟩
        · exact ⟨_, cap, h⟩
      obtain ⟨a9, cap9, rfl⟩ := hsl
      have hl9 : ss.length = keys.length := by have := congrArg List.length hall; simpa using this
      have hcall := sortw (w.heap.size + 1) keys ss a9 cap9 wr HRW.out hall HSZ.out (by omega)
      have HC := Lib.hid hcall; clear hcall hall hc0 hl0
      rw [hl9]
      clear hl9
      have hk96 : keys.length ≤ 140737488351232 := by omega
      go_wp2_with fail
      refine HC.out.mono ?_
      rintro e w3 ⟨rfl, ⟨X, hX, hK3⟩, hks⟩
      have hKw3 : Kept [] w w3 := Kept.trans (Z := []) hK hK3 (by simp) (fun y hy hl => by have := hX y hy; omega)
      have HKS := Lib.hid hks; have HW3 := Lib.hid hKw3; clear hks hKw3 hX
      go_wp2_with fail
      obtain ⟨wo, rfl⟩ : ∃ wo : World, wo = wr := ⟨_, rfl⟩
      clear hK
      go_loopw [2, 3, 7, 8, 9, 24] (fun v2 v3 _ _ _ v24 wr => v2 = .slice a9 keys.length cap9 ∧ TsL w3 kids v3 v24 wr) (fun _ _ _ _ _ v _ => keys.length - (intOf v).toNat)
      case atStart => exact ⟨rfl, 0, w3.heap.size, .nil, rfl, by omega, OwnF.nil (Nat.le_refl _) (Nat.zero_le _) (Nat.le_refl _), rfl, trivial, Kept.refl _ _⟩
      case round =>
        clear hrg HCO HRW
        obtain ⟨rfl, j, M, f, rfl, hj, hO, hfl, hsm, hK⟩ := hrel
        have HO := Lib.hid hO; have HFL := Lib.hid hfl; have HSM := Lib.hid hsm; clear hO hfl hsm
        have hKw : Kept [] w wr := Kept.trans HW3.out hK (by simp) (by simp)
        by_cases hlt : j < keys.length
        · obtain ⟨k', i', g', r', s', keys', kids', hd⟩ := F.drop_lt (f := kids) (n := j) (by rw [← HLE.out]; exact hlt)
          obtain ⟨v, hv, hv1⟩ := HOB.out.at hd
          obtain ⟨b9, o9, rfl, hPb, hc, hszk⟩ := (HKS.out.kept hK (fun b hb => by rcases hb with h | ⟨_, h⟩; omega; exact ⟨h, by simp⟩)).2.2 j hlt
          have hat := HMI.out.val j keys[j] v (List.getElem?_eq_getElem hlt) hv
          have hownR := owns_kept HOW.out hKw (by simp)
          have hkey := Go.WideMaps.keyOf_string_mk Tryz.underlying9 (s := keys[j]) (by unfold maxLen; omega)
          have hif := hv1.ifv
          have hcall := (HIH.out.at hd) P v wr (hv1.kept hKw (fun b hb => ⟨hP b hb, by simp⟩)) (fun b hb => Nat.lt_of_lt_of_le (hP b hb) hKw.size) (HOK.out.at hd)
          have hflen : (f.len + 1) * 96 ≤ 140737488355328 := by have := HFL.out; omega
          have HC := Lib.hid hcall; have HD := Lib.hid hd; have HIF := Lib.hid hif; have HAT := Lib.hid hat; have HOR := Lib.hid hownR; have HKY := Lib.hid hkey; clear hcall hd hv hv1 hif hat hownR hkey
          go_wp2_with (at_lookup; refine lookup_rv _ rfl _ _ rfl b n D rfl HOR.out _ (kl keys[j]) rfl HKY.out v HAT.out ?_)
          refine HC.out.mono ?_
          rintro e w2 ⟨hK3, r2, ka2, kc2, a2, cap2, kids2, rfl, hnode2, hrr, hss⟩
          have HRR := Lib.hid hrr; have HSS := Lib.hid hss; clear hrr hss hc
          have hO := HO.out
          obtain ⟨⟨cs, hr, hfl⟩, hM, hNB, hBH⟩ := hO
          obtain ⟨i0, hi, hz0, hz1, hz2⟩ := info_parts Tryz.info26
          have hr2 : w2.ownsRow w3.heap.size 26 7 u3 f.len cs := hr.kept (hK3.grown none) (by cases u3.ownBlock <;> simp)
          have hown : ∀ b, u3.ownBlock = some b → w3.heap.size ≤ b ∧ b < wr.heap.size := hr.lt
          have hws : w3.heap.size ≤ w2.heap.size := Nat.le_trans hK.size hK3.size
          have HFLAT := Lib.hid hfl; have HNODE := Lib.hid hnode2; clear hfl hnode2
          go_wp2_with (at_builtin; go_must (refine app1 rfl _ _ 24 26 i0 (.agg #[.int .i64 0, .int .i64 0, .int .i64 0, .float .f64 0, .string ⟨#[]⟩, .slice none 0 0, .slice none 0 0]) 7 96 rfl Tryz.underlying24 hi hz0 hz1 hz2 rfl (by decide) rfl ((hr2.alloc _).alloc _) ⟨_, 0, none⟩ [.int .i64 k', .int .i64 i', .int .i64 g', .float .f64 r2, .string s', .slice ka2 keys'.length kc2, .slice a2 kids2.len cap2] rfl rfl ?c1 ?c2 hflen (by decide) ?c5 ?_))
          case c1 => exact cells_new_at _ _ _ _ (by simp)
          case c2 => simp [Value.oneCell']
          case c5 => simp; omega
          intro v' w' hrow' hg' hv'
          obtain ⟨W3, hW3⟩ : ∃ W3, W3 = (w2.alloc (.cells #[.int .i64 k', .int .i64 i', .int .i64 g', .float .f64 r2, .string s', .slice ka2 keys'.length kc2, .slice a2 kids2.len cap2] 26)).alloc (.cells #[.int .i64 k', .int .i64 i', .int .i64 g', .float .f64 r2, .string s', .slice ka2 keys'.length kc2, .slice a2 kids2.len cap2] 26) := ⟨_, rfl⟩
          have hK23 : Kept [] w2 W3 := by rw [hW3]; exact ((Kept.refl [] w2).alloc _).alloc _
          have hsz3 : W3.heap.size = w2.heap.size + 1 + 1 := by rw [hW3]; simp
          rw [← hW3] at hg'
          rw [← hsz3] at hv'
          have hK3' : Kept [] wr W3 := Kept.trans hK3 hK23 (by simp) (by simp)
          have hKw : Kept [] W3 w' ∨ ∃ b, u3.ownBlock = some b ∧ Kept [b] W3 w' := by
            cases hvo : u3.ownBlock with
            | none => exact .inl (Kept.of_grown hg' (fun k hk => by rw [hvo] at hk; cases hk))
            | some b => exact .inr ⟨b, rfl, Kept.of_grown hg' (fun k hk => by rw [hvo] at hk; cases hk; simp)⟩
          have hOF := OwnF.snoc (E := 26) (B := w3.heap.size) (N := 0) (H := w3.heap.size) (M := M) (w := W3) (w' := w') (v := u3) (v' := v') (f := f) (h0 := wr.heap.size) (cs := cs)
            (by rw [hW3]; exact (hr2.alloc _).alloc _) (HFLAT.out.kept hK3' (fun b hb => ⟨by rcases hb with h | ⟨_, h, _⟩ <;> omega, by simp⟩)) (Nat.le_trans hM hK3'.size) hNB hBH hM hK.size (fun b hb => (hown b hb).2)
            ((HNODE.out.kept hK23 (fun b hb => ⟨by rcases hb with h | ⟨_, h⟩ <;> omega, by simp⟩)).mono (fun b hb => by rcases hb with h | ⟨h, h2⟩; exact .inl h; exact .inr ⟨h, Nat.lt_of_lt_of_le h2 hK23.size⟩)) (Nat.zero_le _) hrow' hKw hv'
          have hKb : Kept [] w3 w' := by
            have h1 : Kept [] w3 W3 := Kept.trans (Z := []) hK hK3' (by simp) (by simp)
            rcases hKw with h | ⟨b, hb, h⟩
            · exact Kept.trans h1 h (by simp) (by simp)
            · exact Kept.trans h1 h (by simp) (fun y hy hl => by simp at hy; subst hy; have := (hown _ hb).1; omega)
          have HOF := Lib.hid hOF; have HKB := Lib.hid hKb; clear hOF hKb hKw hg' hv' hrow' hr hr2 hown hK3' hK23 hsz3 hW3
          go_wp2_with fail
          refine ⟨⟨rfl, j + 1, W3.heap.size, _, by go_num, by have := HLE.out; omega, HOF.out, by rw [F.len_snoc, HFL.out], ?_, HKB.out⟩, by simp [intOf]; omega⟩
          rw [F.take_succ j HD.out]; exact SameF.snoc HRR.out HSS.out HSM.out
        · have hjl : j = kids.len := by have := HLE.out; omega
          obtain ⟨a8, cap8, rfl⟩ := HO.out.slice
          have hfb : f.len * 96 ≤ 140737488355328 := by have := HFL.out; have := HLE.out; omega
          have hkd := (HO.out.kids hfb).2
          have hsame : SameF f kids := by have := HSM.out; rw [hjl, F.take_all] at this; exact this
          have hks9 := (HKS.out.kept hK (fun b hb => by rcases hb with h | ⟨_, h⟩; omega; exact ⟨h, by simp⟩)).mono (Q := Fr 0 w.heap.size wr.heap.size) (fun b hb => by
            rcases hb with h | ⟨h, h2⟩
            · exact .inl h
            · exact .inr ⟨by omega, Nat.lt_of_lt_of_le h2 hK.size⟩)
          have hkd9 := hkd.mono (Q := Fr 0 w.heap.size wr.heap.size) (fun b hb => by
            rcases hb with h | ⟨h, h2⟩
            · exact .inl h
            · exact .inr ⟨by have := HW3.out.size; omega, h2⟩)
          have HKD := Lib.hid hkd9; have HS := Lib.hid hsame; have HK9 := Lib.hid hks9; clear hkd hkd9 hsame hjl hks9
          go_wp2_with fail
          go_ret3
          exact ⟨hKw, a9, cap9, a8, cap8, f, rfl, HK9.out, HKD.out, HS.out⟩
    · intro x c l y1 y2 w1 cnt1 hkx hlx hy hat hrg1 hlt hg1 hs1 hen
      obtain ⟨s, hxs, rfl, hszx⟩ := keyOf9 hkx
      cases hxs
      have hco1 := HCO.out.step (x := x.data.toList) hlx hat
      have hl1 := collected_len hco1 HH.out
      rw [List.length_append] at hl1
      simp only [List.length_singleton] at hl1
      have hbytes : (ss.length + 1) * 16 ≤ 140737488355328 := by omega
      have hrow1 := HRW.out.kept hg1 (by
        cases hu : u2.ownBlock with
        | none => exact .inl rfl
        | some b8 => exact .inr fun e => by cases e; have := (HRW.out.lt _ hu).1; omega)
      have hKw1 : Kept [] w w1 := Kept.trans (Z := []) hK (Kept.of_grown (X := [w.heap.size]) hg1 (fun k hk => by cases hk; simp)) (by simp) (fun y hy hl => by simp at hy; omega)
      have hsz1 : w.heap.size < w1.heap.size := hrg1.lt
      have hbne : ∀ b8, u2.ownBlock = some b8 → w.heap.size + 1 ≤ b8 ∧ b8 < w1.heap.size := hrow1.lt
      have HR1 := Lib.hid hrg1; have HCO1 := Lib.hid hco1; have HLT := Lib.hid hlt; have HRG := Lib.hid hrg; have HBN := Lib.hid hbne; have HKW := Lib.hid hKw1
      obtain ⟨i0, hi, hz0, hz1, hz2⟩ := info_parts Tryz.info9
      clear hrg hrg1 hco1 hs1 hlt hg1 hbne hKw1 hat hlx hkx hl1
      go_wp2_with (at_builtin; go_must (refine app1 rfl _ _ 23 9 i0 (.string ⟨#[]⟩) 1 16 rfl Tryz.underlying23 hi hz0 hz1 hz2 rfl (by decide) rfl (hrow1.alloc _) ⟨w1.heap.size, 0, none⟩ [.string x] rfl rfl ?c1 ?c2 hbytes (by decide) ?c5 ?_))
      case c1 => exact cells_one _ _ _
      case c2 => simp [Value.oneCell']
      case c5 => simp; omega
      intro v' w' hrow' hg' hv'
      have hrg2 := (HR1.out.alloc (.cells #[.string x] 9)).kept hg' (fun e => by have := (HBN.out _ e.symm).1; omega) (fun e => by have := (HBN.out _ e.symm).1; omega)
      have hKw2 : Kept [] w w' := by
        have h1 : Kept [] w (w1.alloc (.cells #[.string x] 9)) := HKW.out.alloc _
        cases hvo : u2.ownBlock with
        | none => exact Kept.trans h1 (Kept.of_grown (X := []) hg' (fun k hk => by rw [hvo] at hk; cases hk)) (by simp) (by simp)
        | some b8 => exact Kept.trans h1 (Kept.of_grown (X := [b8]) hg' (fun k hk => by rw [hvo] at hk; cases hk; simp)) (by simp) (fun y hy hl => by simp at hy; subst hy; have := (HBN.out _ hvo).1; omega)
      have hrow2 : w'.ownsRow (w.heap.size + 1) 9 1 v' (ss ++ [x.data.toList]).length ((ss ++ [x.data.toList]).map encStr) := by
        have e : encStr x.data.toList = .string x := by simp [encStr]
        rw [List.length_append, List.map_append, List.map_singleton, e]
        exact hrow'
      have HRG2 := Lib.hid hrg2; have HKW2 := Lib.hid hKw2; have HRW2 := Lib.hid hrow2; clear hrg2 hKw2 hrow2 hrow' hg' hv'
      go_wp2_with fail
      refine ⟨⟨_, cnt1, _, HRG2.out, HCO1.out, HRW2.out, HKW2.out⟩, ?_⟩
      rw [HRG2.out.left_eq, HRG.out.left_eq]; exact HLT.out
end Go.Proofs.YtfkecmlmnhbmoaaGreatDoor
namespace Go.Proofs.YtfkecmlmnhbmoaaGreatDoor
open Go.RowKit Go.Maps
theorem Ok1.bare {k i g : Int} {r : Nat} {s : ByteArray} {keys : List ByteArray} {kids : F} (h : Ok1 k i g r s keys kids) (hk : k ≠ 7 ∧ k ≠ 8) : keys = [] ∧ kids = .nil := by
  constructor
  · rcases h.good1.only.keys with h | h
    · exact List.length_eq_zero_iff.1 h
    · exact absurd h hk.2
  · exact onlyNil h.good1.only hk
theorem isE {s : ByteArray} (h : s.toList.isEmpty = true) : s = ⟨#[]⟩ := by
  rw [ByteArray.toList_eq] at h
  refine ba_data ?_
  simpa using h
theorem teLeaf {k i g : Int} {r : Nat} {s : ByteArray} {keys : List ByteArray} {kids : F} {w w' : World} {k' i' g' : Int} {r' : Nat} {s' : ByteArray} (hok : Ok1 k i g r s keys kids) (hK : Kept [] w w') (hk : k ≠ 7 ∧ k ≠ 8) (ek : k' = k) (ei : i' = i) (eg : g' = g) (es : s' = s) (hr : feq r' r) (hrl : r' < 18446744073709551616) :
    TeE k i g r s keys kids w (.returned (.tuple #[.agg #[.int .i64 k', .int .i64 i', .int .i64 g', .float .f64 r', .string s', .slice none 0 0, .slice none 0 0], .bool true])) w' := by
  obtain ⟨rfl, rfl⟩ := hok.bare hk
  subst ek ei eg es
  exact ⟨hK, r', none, 0, none, 0, .nil, rfl, leafNode ⟨hok.fld.k, hok.fld.i, hok.fld.g, hrl, hok.fld.s⟩, hr, trivial⟩
theorem Ok1.zero {k i g : Int} {r : Nat} {s : ByteArray} {keys : List ByteArray} {kids : F} (h : Ok1 k i g r s keys kids) :
    (k ≠ 1 → k ≠ 2 → k ≠ 9 → i = 0) ∧ (k ≠ 9 → g = 0) ∧ (k ≠ 3 → feq 0 r) ∧ (k ≠ 4 → k ≠ 5 → k ≠ 6 → s = ⟨#[]⟩) := by
  refine ⟨fun h1 h2 h3 => ?_, fun h1 => ?_, fun h1 => ?_, fun h1 h2 h3 => ?_⟩
  · rcases h.good1.only.i with h | h | h | h
    · exact h
    · exact absurd h h1
    · exact absurd h h2
    · exact absurd h h3
  · rcases h.good1.only.g with h | h
    · exact h
    · exact absurd h h1
  · rcases h.good1.only.r with h | h
    · exact feq_symm (fne_feq h)
    · exact absurd h h1
  · rcases h.good1.only.s with h | h | h | h
    · exact isE h
    · exact absurd h h1
    · exact absurd h h2
    · exact absurd h h3
theorem Kids.up {a b M : Nat} {w w' : World} {p : Option Addr} {cap : Nat} {f : F} (h : Kids (Fr 0 b M) w p cap f) (hk : Kept [a] w w') (hab : a < b) (hM : M ≤ w.heap.size) : Kids (Fr 0 a w'.heap.size) w' p cap f :=
  (h.kept hk fun x hx => by
    rcases hx with h | ⟨h1, h2⟩
    · omega
    · exact ⟨by omega, by simp; omega⟩).mono fun x hx => by
      rcases hx with h | ⟨h1, h2⟩
      · omega
      · exact .inr ⟨by omega, Nat.lt_of_lt_of_le h2 (Nat.le_trans hM hk.size)⟩
theorem KeysIn.up {a b M : Nat} {w w' : World} {p : Option Addr} {cap : Nat} {ks : List ByteArray} (h : KeysIn (Fr 0 b M) w p cap ks) (hk : Kept [a] w w') (hab : a < b) (hM : M ≤ w.heap.size) : KeysIn (Fr 0 a w'.heap.size) w' p cap ks :=
  (h.kept hk fun x hx => by
    rcases hx with h | ⟨h1, h2⟩
    · omega
    · exact ⟨by omega, by simp; omega⟩).mono fun x hx => by
      rcases hx with h | ⟨h1, h2⟩
      · omega
      · exact .inr ⟨by omega, Nat.lt_of_lt_of_le h2 (Nat.le_trans hM hk.size)⟩
theorem keysNil {P : Nat → Prop} {w : World} : KeysIn P w none 0 [] := ⟨by simp, by simp, fun i hi => by simp at hi⟩
set_option maxRecDepth 100000 in
set_option maxHeartbeats 8000000 in
theorem tell_step (k i g : Int) (r : Nat) (s : ByteArray) (keys : List ByteArray) (kids : F) (ih : AllN TeC kids) : TeC k i g r s keys kids := by
  intro P v w ho hP hok
  rcases ho with (⟨rfl, rfl⟩ | ⟨rfl, rfl, rfl⟩ | ⟨rfl, rfl, rfl⟩ | ⟨rfl, rfl⟩ | ⟨rfl, rfl⟩ | ⟨rfl, rfl⟩ | ⟨rfl, rfl⟩ | ⟨rfl, rfl⟩ | ⟨rfl, rfl⟩) | ⟨rfl, a, cap, ys, rfl, h1, h2, h3, h4⟩ | ⟨rfl, b, n, D, ys, rfl, h1, h2, h3, h4, h5⟩
  · skip
    have m94 := Tryz.miss94; have m95 := Tryz.miss95; have m96 := Tryz.miss96; have m97 := Tryz.miss97; have m98 := Tryz.miss98; have m99 := Tryz.miss99; have m101 := Tryz.miss101; have m70 := Tryz.miss70
    have HOK := Lib.hid hok; have HIH := Lib.hid ih; clear hok ih
    go_enter Tryz.func31, Tryz.ntmps31
    go_wp2_with fail
    refine bodyPost_ret (v := .tuple #[.agg #[.int .i64 0, .int .i64 0, .int .i64 0, .float .f64 0, .string ⟨#[]⟩, .slice none 0 0, .slice none 0 0], .bool true]) (by simp [results, Tryz.results31, go_sem]) rfl ?_
    exact teLeaf HOK.out (by repeat (first | with_reducible exact Kept.refl _ _ | with_reducible refine Kept.alloc ?_ _ | with_reducible refine Kept.setCell ?_ (.inl (by simp)) _)) (by decide) rfl (by first | rfl | exact (HOK.out.zero.1 (by decide) (by decide) (by decide)).symm) (by first | rfl | exact (HOK.out.zero.2.1 (by decide)).symm) (by first | rfl | exact (HOK.out.zero.2.2.2 (by decide) (by decide) (by decide)).symm) (by first | exact HOK.out.zero.2.2.1 (by decide) | exact HOK.out.good1.real) (by first | decide | exact HOK.out.fld.r)
  · have h94 := Tryz.hit94
    have m94 := Tryz.miss94; have m95 := Tryz.miss95; have m96 := Tryz.miss96; have m97 := Tryz.miss97; have m98 := Tryz.miss98; have m99 := Tryz.miss99; have m101 := Tryz.miss101; have m70 := Tryz.miss70
    have HOK := Lib.hid hok; have HIH := Lib.hid ih; clear hok ih
    go_enter Tryz.func31, Tryz.ntmps31
    go_wp2_with fail
    refine bodyPost_ret (v := .tuple #[.agg #[.int .i64 1, .int .i64 0, .int .i64 0, .float .f64 0, .string ⟨#[]⟩, .slice none 0 0, .slice none 0 0], .bool true]) (by simp [results, Tryz.results31, go_sem]) rfl ?_
    exact teLeaf HOK.out (by repeat (first | with_reducible exact Kept.refl _ _ | with_reducible refine Kept.alloc ?_ _ | with_reducible refine Kept.setCell ?_ (.inl (by simp)) _)) (by decide) rfl (by first | rfl | exact (HOK.out.zero.1 (by decide) (by decide) (by decide)).symm) (by first | rfl | exact (HOK.out.zero.2.1 (by decide)).symm) (by first | rfl | exact (HOK.out.zero.2.2.2 (by decide) (by decide) (by decide)).symm) (by first | exact HOK.out.zero.2.2.1 (by decide) | exact HOK.out.good1.real) (by first | decide | exact HOK.out.fld.r)
  · have h94 := Tryz.hit94
    have m94 := Tryz.miss94; have m95 := Tryz.miss95; have m96 := Tryz.miss96; have m97 := Tryz.miss97; have m98 := Tryz.miss98; have m99 := Tryz.miss99; have m101 := Tryz.miss101; have m70 := Tryz.miss70
    have HOK := Lib.hid hok; have HIH := Lib.hid ih; clear hok ih
    go_enter Tryz.func31, Tryz.ntmps31
    go_wp2_with fail
    refine bodyPost_ret (v := .tuple #[.agg #[.int .i64 1, .int .i64 1, .int .i64 0, .float .f64 0, .string ⟨#[]⟩, .slice none 0 0, .slice none 0 0], .bool true]) (by simp [results, Tryz.results31, go_sem]) rfl ?_
    exact teLeaf HOK.out (by repeat (first | with_reducible exact Kept.refl _ _ | with_reducible refine Kept.alloc ?_ _ | with_reducible refine Kept.setCell ?_ (.inl (by simp)) _)) (by decide) rfl (by first | rfl | exact (HOK.out.zero.1 (by decide) (by decide) (by decide)).symm) (by first | rfl | exact (HOK.out.zero.2.1 (by decide)).symm) (by first | rfl | exact (HOK.out.zero.2.2.2 (by decide) (by decide) (by decide)).symm) (by first | exact HOK.out.zero.2.2.1 (by decide) | exact HOK.out.good1.real) (by first | decide | exact HOK.out.fld.r)
  · have h95 := Tryz.hit95
    have m94 := Tryz.miss94; have m95 := Tryz.miss95; have m96 := Tryz.miss96; have m97 := Tryz.miss97; have m98 := Tryz.miss98; have m99 := Tryz.miss99; have m101 := Tryz.miss101; have m70 := Tryz.miss70
    have HOK := Lib.hid hok; have HIH := Lib.hid ih; clear hok ih
    go_enter Tryz.func31, Tryz.ntmps31
    go_wp2_with fail
    refine bodyPost_ret (v := .tuple #[.agg #[.int .i64 2, .int .i64 i, .int .i64 0, .float .f64 0, .string ⟨#[]⟩, .slice none 0 0, .slice none 0 0], .bool true]) (by simp [results, Tryz.results31, go_sem]) rfl ?_
    exact teLeaf HOK.out (by repeat (first | with_reducible exact Kept.refl _ _ | with_reducible refine Kept.alloc ?_ _ | with_reducible refine Kept.setCell ?_ (.inl (by simp)) _)) (by decide) rfl (by first | rfl | exact (HOK.out.zero.1 (by decide) (by decide) (by decide)).symm) (by first | rfl | exact (HOK.out.zero.2.1 (by decide)).symm) (by first | rfl | exact (HOK.out.zero.2.2.2 (by decide) (by decide) (by decide)).symm) (by first | exact HOK.out.zero.2.2.1 (by decide) | exact HOK.out.good1.real) (by first | decide | exact HOK.out.fld.r)
  · have h96 := Tryz.hit96
    have m94 := Tryz.miss94; have m95 := Tryz.miss95; have m96 := Tryz.miss96; have m97 := Tryz.miss97; have m98 := Tryz.miss98; have m99 := Tryz.miss99; have m101 := Tryz.miss101; have m70 := Tryz.miss70
    have HOK := Lib.hid hok; have HIH := Lib.hid ih; clear hok ih
    go_enter Tryz.func31, Tryz.ntmps31
    go_wp2_with fail
    refine bodyPost_ret (v := .tuple #[.agg #[.int .i64 3, .int .i64 0, .int .i64 0, .float .f64 r, .string ⟨#[]⟩, .slice none 0 0, .slice none 0 0], .bool true]) (by simp [results, Tryz.results31, go_sem]) rfl ?_
    exact teLeaf HOK.out (by repeat (first | with_reducible exact Kept.refl _ _ | with_reducible refine Kept.alloc ?_ _ | with_reducible refine Kept.setCell ?_ (.inl (by simp)) _)) (by decide) rfl (by first | rfl | exact (HOK.out.zero.1 (by decide) (by decide) (by decide)).symm) (by first | rfl | exact (HOK.out.zero.2.1 (by decide)).symm) (by first | rfl | exact (HOK.out.zero.2.2.2 (by decide) (by decide) (by decide)).symm) (by first | exact HOK.out.zero.2.2.1 (by decide) | exact HOK.out.good1.real) (by first | decide | exact HOK.out.fld.r)
  · have h97 := Tryz.hit97
    have m94 := Tryz.miss94; have m95 := Tryz.miss95; have m96 := Tryz.miss96; have m97 := Tryz.miss97; have m98 := Tryz.miss98; have m99 := Tryz.miss99; have m101 := Tryz.miss101; have m70 := Tryz.miss70
    have HOK := Lib.hid hok; have HIH := Lib.hid ih; clear hok ih
    go_enter Tryz.func31, Tryz.ntmps31
    go_wp2_with fail
    refine bodyPost_ret (v := .tuple #[.agg #[.int .i64 4, .int .i64 0, .int .i64 0, .float .f64 0, .string s, .slice none 0 0, .slice none 0 0], .bool true]) (by simp [results, Tryz.results31, go_sem]) rfl ?_
    exact teLeaf HOK.out (by repeat (first | with_reducible exact Kept.refl _ _ | with_reducible refine Kept.alloc ?_ _ | with_reducible refine Kept.setCell ?_ (.inl (by simp)) _)) (by decide) rfl (by first | rfl | exact (HOK.out.zero.1 (by decide) (by decide) (by decide)).symm) (by first | rfl | exact (HOK.out.zero.2.1 (by decide)).symm) (by first | rfl | exact (HOK.out.zero.2.2.2 (by decide) (by decide) (by decide)).symm) (by first | exact HOK.out.zero.2.2.1 (by decide) | exact HOK.out.good1.real) (by first | decide | exact HOK.out.fld.r)
  · have h98 := Tryz.hit98
    have m94 := Tryz.miss94; have m95 := Tryz.miss95; have m96 := Tryz.miss96; have m97 := Tryz.miss97; have m98 := Tryz.miss98; have m99 := Tryz.miss99; have m101 := Tryz.miss101; have m70 := Tryz.miss70
    have HOK := Lib.hid hok; have HIH := Lib.hid ih; clear hok ih
    go_enter Tryz.func31, Tryz.ntmps31
    go_wp2_with fail
    refine bodyPost_ret (v := .tuple #[.agg #[.int .i64 5, .int .i64 0, .int .i64 0, .float .f64 0, .string s, .slice none 0 0, .slice none 0 0], .bool true]) (by simp [results, Tryz.results31, go_sem]) rfl ?_
    exact teLeaf HOK.out (by repeat (first | with_reducible exact Kept.refl _ _ | with_reducible refine Kept.alloc ?_ _ | with_reducible refine Kept.setCell ?_ (.inl (by simp)) _)) (by decide) rfl (by first | rfl | exact (HOK.out.zero.1 (by decide) (by decide) (by decide)).symm) (by first | rfl | exact (HOK.out.zero.2.1 (by decide)).symm) (by first | rfl | exact (HOK.out.zero.2.2.2 (by decide) (by decide) (by decide)).symm) (by first | exact HOK.out.zero.2.2.1 (by decide) | exact HOK.out.good1.real) (by first | decide | exact HOK.out.fld.r)
  · have h99 := Tryz.hit99
    have m94 := Tryz.miss94; have m95 := Tryz.miss95; have m96 := Tryz.miss96; have m97 := Tryz.miss97; have m98 := Tryz.miss98; have m99 := Tryz.miss99; have m101 := Tryz.miss101; have m70 := Tryz.miss70
    have HOK := Lib.hid hok; have HIH := Lib.hid ih; clear hok ih
    go_enter Tryz.func31, Tryz.ntmps31
    go_wp2_with fail
    refine bodyPost_ret (v := .tuple #[.agg #[.int .i64 6, .int .i64 0, .int .i64 0, .float .f64 0, .string s, .slice none 0 0, .slice none 0 0], .bool true]) (by simp [results, Tryz.results31, go_sem]) rfl ?_
    exact teLeaf HOK.out (by repeat (first | with_reducible exact Kept.refl _ _ | with_reducible refine Kept.alloc ?_ _ | with_reducible refine Kept.setCell ?_ (.inl (by simp)) _)) (by decide) rfl (by first | rfl | exact (HOK.out.zero.1 (by decide) (by decide) (by decide)).symm) (by first | rfl | exact (HOK.out.zero.2.1 (by decide)).symm) (by first | rfl | exact (HOK.out.zero.2.2.2 (by decide) (by decide) (by decide)).symm) (by first | exact HOK.out.zero.2.2.1 (by decide) | exact HOK.out.good1.real) (by first | decide | exact HOK.out.fld.r)
  · have h101 := Tryz.hit101
    have m94 := Tryz.miss94; have m95 := Tryz.miss95; have m96 := Tryz.miss96; have m97 := Tryz.miss97; have m98 := Tryz.miss98; have m99 := Tryz.miss99; have m101 := Tryz.miss101; have m70 := Tryz.miss70
    have HOK := Lib.hid hok; have HIH := Lib.hid ih; clear hok ih
    go_enter Tryz.func31, Tryz.ntmps31
    go_wp2_with fail
    refine bodyPost_ret (v := .tuple #[.agg #[.int .i64 9, .int .i64 i, .int .i64 g, .float .f64 0, .string ⟨#[]⟩, .slice none 0 0, .slice none 0 0], .bool true]) (by simp [results, Tryz.results31, go_sem]) rfl ?_
    exact teLeaf HOK.out (by repeat (first | with_reducible exact Kept.refl _ _ | with_reducible refine Kept.alloc ?_ _ | with_reducible refine Kept.setCell ?_ (.inl (by simp)) _)) (by decide) rfl (by first | rfl | exact (HOK.out.zero.1 (by decide) (by decide) (by decide)).symm) (by first | rfl | exact (HOK.out.zero.2.1 (by decide)).symm) (by first | rfl | exact (HOK.out.zero.2.2.2 (by decide) (by decide) (by decide)).symm) (by first | exact HOK.out.zero.2.2.1 (by decide) | exact HOK.out.good1.real) (by first | decide | exact HOK.out.fld.r)
  · have h70 := Tryz.hit70
    have hkn : keys = [] := by
      rcases hok.good1.only.keys with h | h
      · exact List.length_eq_zero_iff.1 h
      · exact absurd h (by decide)
    have hcall := fun W (hW : Kept [] w W) => tellsw kids P a cap ys W (h3.kept hW (fun b hb => ⟨hP b hb, by simp⟩)) (h4.kept hW (fun b hb => ⟨hP b hb, by simp⟩)) (fun b hb => Nat.lt_of_lt_of_le (hP b hb) hW.size) h1 h2 ⟨hok.good, hok.fit⟩ ih
    have HC := Lib.hid hcall; have HKN := Lib.hid hkn; clear hcall h3 h4 hkn
    have m94 := Tryz.miss94; have m95 := Tryz.miss95; have m96 := Tryz.miss96; have m97 := Tryz.miss97; have m98 := Tryz.miss98; have m99 := Tryz.miss99; have m101 := Tryz.miss101; have m70 := Tryz.miss70
    have HOK := Lib.hid hok; have HIH := Lib.hid ih; clear hok ih
    go_enter Tryz.func31, Tryz.ntmps31
    go_wp2_with fail
    refine (HC.out _ ((Kept.refl _ _).alloc _)).mono ?_
    rintro e w1 ⟨hk, a', cap', kids', rfl, hkd, hss⟩
    have hb := (hk.block w.heap.size (by simp) (by simp)).trans (heap_at rfl)
    obtain ⟨⟨c0, c1, c2, c3, c4, c5, c6⟩, f0, f1, f2, f3, f4, f5, f6⟩ := seven hb
    have hsz : w.heap.size < w1.heap.size := lt_of_block hb
    have hoff := cell_set_off
    have K1 : Kept [] w w1 := Kept.trans (Z := []) ((Kept.refl [] w).alloc _) hk (by simp) (by simp)
    have HK1 := Lib.hid K1; have HKD := Lib.hid hkd; have HS := Lib.hid hss; clear hk hb K1 hkd hss m94 m95 m96 m97 m98 m99 m101 m70 h70
    go_wp2_with fail
    have z := HOK.out.zero
    have zi := z.1 (by decide) (by decide) (by decide)
    have zg := z.2.1 (by decide)
    have zs := z.2.2.2 (by decide) (by decide) (by decide)
    have zr := z.2.2.1 (by decide)
    have zk := HKN.out
    subst zi zg zs zk
    refine bodyPost_ret (v := .tuple #[.agg #[.int .i64 7, .int .i64 0, .int .i64 0, .float .f64 0, .string ⟨#[]⟩, .slice none 0 0, .slice a' kids'.len cap'], .bool true]) (by simp [results, Tryz.results31, go_sem, hoff, c0, c1, c2, c3, c4, c5, c6]) rfl ?_
    refine ⟨kept7 HK1.out (.inl (Nat.le_refl _)) _ _ _ _ _ _ _, 0, none, 0, a', cap', kids', rfl, ⟨⟨HOK.out.fld.k, HOK.out.fld.i, HOK.out.fld.g, by decide, HOK.out.fld.s⟩, keysNil, Kids.up HKD.out (kept7 (Kept.refl _ _) (.inr (by simp)) _ _ _ _ _ _ _) (by simp) (Nat.le_refl _)⟩, zr, HS.out⟩
  · have h61 := Tryz.hit61
    have hcall := fun W (hW : Kept [] w W) => telldictw keys kids P b n D ys W (owns_kept h3 hW (by simp)) h4 (h5.kept hW (fun b hb => ⟨hP b hb, by simp⟩)) (fun b hb => Nat.lt_of_lt_of_le (hP b hb) hW.size) h2 (hok.good1.ascend rfl) (hok.good1.len rfl) hok.ks ⟨hok.good, hok.fit⟩ ih
    have HC := Lib.hid hcall; clear hcall h3 h4 h5
    have m94 := Tryz.miss94; have m95 := Tryz.miss95; have m96 := Tryz.miss96; have m97 := Tryz.miss97; have m98 := Tryz.miss98; have m99 := Tryz.miss99; have m101 := Tryz.miss101; have m70 := Tryz.miss70
    have HOK := Lib.hid hok; have HIH := Lib.hid ih; clear hok ih
    go_enter Tryz.func31, Tryz.ntmps31
    go_wp2_with fail
    refine (HC.out _ ((Kept.refl _ _).alloc _)).mono ?_
    rintro e w1 ⟨hk, ka', kc', a', cap', kids', rfl, hks, hkd, hss⟩
    have HKS := Lib.hid hks; clear hks
    have hb := (hk.block w.heap.size (by simp) (by simp)).trans (heap_at rfl)
    obtain ⟨⟨c0, c1, c2, c3, c4, c5, c6⟩, f0, f1, f2, f3, f4, f5, f6⟩ := seven hb
    have hsz : w.heap.size < w1.heap.size := lt_of_block hb
    have hoff := cell_set_off
    have K1 : Kept [] w w1 := Kept.trans (Z := []) ((Kept.refl [] w).alloc _) hk (by simp) (by simp)
    have HK1 := Lib.hid K1; have HKD := Lib.hid hkd; have HS := Lib.hid hss; clear hk hb K1 hkd hss m94 m95 m96 m97 m98 m99 m101 m70 h61
    go_wp2_with fail
    have z := HOK.out.zero
    have zi := z.1 (by decide) (by decide) (by decide)
    have zg := z.2.1 (by decide)
    have zs := z.2.2.2 (by decide) (by decide) (by decide)
    have zr := z.2.2.1 (by decide)
    subst zi zg zs
    refine bodyPost_ret (v := .tuple #[.agg #[.int .i64 8, .int .i64 0, .int .i64 0, .float .f64 0, .string ⟨#[]⟩, .slice ka' keys.length kc', .slice a' kids'.len cap'], .bool true]) (by simp [results, Tryz.results31, go_sem, hoff, c0, c1, c2, c3, c4, c5, c6]) rfl ?_
    refine ⟨kept7 HK1.out (.inl (Nat.le_refl _)) _ _ _ _ _ _ _, 0, ka', kc', a', cap', kids', rfl, ⟨⟨HOK.out.fld.k, HOK.out.fld.i, HOK.out.fld.g, by decide, HOK.out.fld.s⟩, KeysIn.up HKS.out (kept7 (Kept.refl _ _) (.inr (by simp)) _ _ _ _ _ _ _) (by simp) (Nat.le_refl _), Kids.up HKD.out (kept7 (Kept.refl _ _) (.inr (by simp)) _ _ _ _ _ _ _) (by simp) (Nat.le_refl _)⟩, zr, HS.out⟩
theorem tell_node (k i g : Int) (r : Nat) (s : ByteArray) (keys : List ByteArray) (kids : F) : TeC k i g r s keys kids := AllN.node tell_step k i g r s keys kids
end Go.Proofs.YtfkecmlmnhbmoaaGreatDoor
namespace Go.Proofs.YtfkecmlmnhbmoaaGreatDoor
open Go.RowKit Go.Maps
/-- Those that are no nulls. -/
def F.nn : F → F
  | .nil => .nil
  | .cons k i g r s keys kids rest => if k = 0 then rest.nn else .cons k i g r s keys kids rest.nn
theorem Good.nn : ∀ {f : F}, Good f → Good f.nn
  | .nil, _ => trivial
  | .cons k _ _ _ _ _ _ _, ⟨a, b, c⟩ => by
    simp only [F.nn]
    split
    · exact Good.nn c
    · exact ⟨a, b, Good.nn c⟩
theorem FitF.nn : ∀ {f : F}, FitF f → FitF f.nn
  | .nil, _ => trivial
  | .cons k _ _ _ _ _ _ _, ⟨a, b, c⟩ => by
    simp only [F.nn]
    split
    · exact FitF.nn c
    · exact ⟨a, b, FitF.nn c⟩
theorem feq00 : feq 0 0 := by unfold feq; kernel_rfl
end Go.Proofs.YtfkecmlmnhbmoaaGreatDoor
namespace Go.Proofs.YtfkecmlmnhbmoaaGreatDoor
open Go.RowKit Go.Maps
/-- A node's own fields and its parts. -/
structure Nd where
  k : Int
  i : Int
  g : Int
  r : Nat
  s : ByteArray
  keys : List ByteArray
  kids : F
def F.nd : F → Nat → Option Nd
  | .nil, _ => none
  | .cons k i g r s keys kids _, 0 => some ⟨k, i, g, r, s, keys, kids⟩
  | .cons _ _ _ _ _ _ _ rest, j + 1 => rest.nd j
def F.sn (f : F) (n : Nd) : F := f.snoc n.k n.i n.g n.r n.s n.keys n.kids
theorem F.nd_drop : ∀ {f : F} {j : Nat} {n : Nd}, f.nd j = some n → f.drop j = .cons n.k n.i n.g n.r n.s n.keys n.kids (f.drop (j + 1))
  | .nil, j, n, h => by cases h
  | .cons _ _ _ _ _ _ _ _, 0, n, h => by cases h; rfl
  | .cons _ _ _ _ _ _ _ rest, j + 1, n, h => F.nd_drop (f := rest) h
theorem F.drop_nd : ∀ {f : F} {j : Nat} {k i g : Int} {r : Nat} {s : ByteArray} {keys : List ByteArray} {kids rest : F}, f.drop j = .cons k i g r s keys kids rest → f.nd j = some ⟨k, i, g, r, s, keys, kids⟩
  | .nil, 0, _, _, _, _, _, _, _, _, h => by cases h
  | .nil, _ + 1, _, _, _, _, _, _, _, _, h => by cases h
  | .cons _ _ _ _ _ _ _ _, 0, _, _, _, _, _, _, _, _, h => by
    simp only [F.drop, F.cons.injEq] at h
    obtain ⟨rfl, rfl, rfl, rfl, rfl, rfl, rfl, rfl⟩ := h
    rfl
  | .cons _ _ _ _ _ _ _ rest, j + 1, _, _, _, _, _, _, _, _, h => F.drop_nd (f := rest) (j := j) h
theorem F.nd_lt : ∀ {f : F} {j : Nat} {n : Nd}, f.nd j = some n → j < f.len
  | .nil, j, n, h => by cases h
  | .cons _ _ _ _ _ _ _ _, 0, n, h => by simp [F.len]
  | .cons _ _ _ _ _ _ _ rest, j + 1, n, h => by have := F.nd_lt (f := rest) h; simp only [F.len]; omega
theorem F.lt_nd {f : F} {j : Nat} (h : j < f.len) : ∃ n, f.nd j = some n := by
  obtain ⟨k, i, g, r, s, keys, kids, hd⟩ := F.drop_lt h
  exact ⟨_, F.drop_nd hd⟩
/-- Two nodes are the same, reals by their values. -/
def SameN (a b : Nd) : Prop := a.k = b.k ∧ a.i = b.i ∧ a.g = b.g ∧ feq a.r b.r ∧ a.s = b.s ∧ a.keys = b.keys ∧ SameF a.kids b.kids
/-- A value of a dictionary: as the conversions want it, and no null. -/
structure NdOk (n : Nd) : Prop where
  ok : Ok1 n.k n.i n.g n.r n.s n.keys n.kids
  nn : n.k ≠ 0
/-- A dictionary: keys and values. -/
structure Di where
  keys : List ByteArray
  kids : F
/-- The dictionary has a value for a key. -/
def Di.At (d : Di) (s : ByteArray) (n : Nd) : Prop := ∃ j : Nat, d.keys[j]? = some s ∧ d.kids.nd j = some n
/-- A dictionary is in order. -/
structure DiOk (d : Di) : Prop where
  len : d.keys.length = d.kids.len
  asc : Asc d.keys
  simp : ∀ s ∈ d.keys, Simp s
  ok : ∀ j n, d.kids.nd j = some n → NdOk n
theorem Di.At.mem {d : Di} {s : ByteArray} {n : Nd} (h : d.At s n) : s ∈ d.keys := by
  obtain ⟨j, hj, _⟩ := h
  exact List.mem_of_getElem? hj
theorem DiOk.at {d : Di} (h : DiOk d) {s : ByteArray} (hs : s ∈ d.keys) : ∃ n, d.At s n := by
  obtain ⟨j, hj, rfl⟩ := List.getElem_of_mem hs
  obtain ⟨n, hn⟩ := F.lt_nd (f := d.kids) (j := j) (by rw [← h.len]; exact hj)
  exact ⟨n, j, List.getElem?_eq_getElem hj, hn⟩
theorem DiOk.one {d : Di} (h : DiOk d) {s : ByteArray} {n m : Nd} (h1 : d.At s n) (h2 : d.At s m) : n = m := by
  obtain ⟨j, hj, hn⟩ := h1
  obtain ⟨i, hi, hm⟩ := h2
  obtain ⟨hjl, hj2⟩ := List.getElem?_eq_some_iff.1 hj
  obtain ⟨hil, hi2⟩ := List.getElem?_eq_some_iff.1 hi
  have : i = j := by
    rcases Nat.lt_trichotomy i j with h3 | h3 | h3
    · have := (List.pairwise_iff_getElem.1 h.asc.nodup) i j hil hjl h3
      rw [hi2, hj2] at this; exact absurd rfl this
    · exact h3
    · have := (List.pairwise_iff_getElem.1 h.asc.nodup) j i hjl hil h3
      rw [hi2, hj2] at this; exact absurd rfl this
  subst this
  rw [hm] at hn
  exact (Option.some.inj hn).symm
/-- The dictionary with a value for a key. -/
structure PutR (d : Di) (key : ByteArray) (y : Nd) (d' : Di) : Prop where
  ok : DiOk d'
  at' : ∀ s n, d'.At s n ↔ (s = key ∧ n = y) ∨ (s ≠ key ∧ d.At s n)
  len : d'.keys.length ≤ d.keys.length + 1
/-- The dictionary without a key. -/
structure DropR (d : Di) (key : ByteArray) (d' : Di) : Prop where
  ok : DiOk d'
  at' : ∀ s n, d'.At s n ↔ (s ≠ key ∧ d.At s n)
  len : d'.keys.length ≤ d.keys.length
def Nd.zero : Nd := ⟨0, 0, 0, 0, ⟨#[]⟩, [], .nil⟩
def Nd.int (n : Int) : Nd := ⟨2, n, 0, 0, ⟨#[]⟩, [], .nil⟩
theorem PutR.mem {d d' : Di} {key : ByteArray} {y : Nd} (h : PutR d key y d') (hd : DiOk d) (s : ByteArray) : s ∈ d'.keys ↔ s = key ∨ s ∈ d.keys := by
  constructor
  · intro hs
    obtain ⟨n, hn⟩ := h.ok.at hs
    rcases (h.at' s n).1 hn with ⟨h1, _⟩ | ⟨_, h1⟩
    · exact .inl h1
    · exact .inr h1.mem
  · intro hs
    by_cases e : s = key
    · exact ((h.at' s y).2 (.inl ⟨e, rfl⟩)).mem
    · rcases hs with h1 | h1
      · exact absurd h1 e
      · obtain ⟨n, hn⟩ := hd.at h1
        exact ((h.at' s n).2 (.inr ⟨e, hn⟩)).mem
theorem DropR.mem {d d' : Di} {key : ByteArray} (h : DropR d key d') (hd : DiOk d) (s : ByteArray) : s ∈ d'.keys ↔ s ≠ key ∧ s ∈ d.keys := by
  constructor
  · intro hs
    obtain ⟨n, hn⟩ := h.ok.at hs
    have := (h.at' s n).1 hn
    exact ⟨this.1, this.2.mem⟩
  · rintro ⟨e, h1⟩
    obtain ⟨n, hn⟩ := hd.at h1
    exact ((h.at' s n).2 ⟨e, hn⟩).mem
/-- What a step does, says and hands back. -/
inductive StepR (d : Di) (op : Int) (key : ByteArray) (y : Nd) : Di → Bool → Nd → Prop where
  | insNo (h : op = 0) (hk : key ∈ d.keys) : StepR d op key y d false Nd.zero
  | ins {d' : Di} (h : op = 0) (hk : key ∉ d.keys) (hp : PutR d key y d') : StepR d op key y d' true Nd.zero
  | upd {d' : Di} (h : op = 1) (hk : key ∈ d.keys) (hp : PutR d key y d') : StepR d op key y d' true Nd.zero
  | del {d' : Di} {v : Nd} (h : op = 2) (hk : d.At key v) (hp : DropR d key d') : StepR d op key y d' true v
  | delNo {d' : Di} (h : op = 2) (hk : key ∉ d.keys) (hp : DropR d key d') : StepR d op key y d' false Nd.zero
  | look {v : Nd} (h : op = 3 ∨ op = 4 ∨ op = 5) (hk : d.At key v) : StepR d op key y d true v
  | lookNo (h : op = 3 ∨ op = 4 ∨ op = 5) (hk : key ∉ d.keys) : StepR d op key y d false Nd.zero
  | incNo (h : op = 6) (hk : ∀ v, d.At key v → v.k ≠ 2) : StepR d op key y d false Nd.zero
  | inc {d' : Di} {v : Nd} (h : op = 6) (hk : d.At key v) (h2 : v.k = 2) (hp : PutR d key (Nd.int (wrap64 (v.i + y.i))) d') : StepR d op key y d' true Nd.zero
end Go.Proofs.YtfkecmlmnhbmoaaGreatDoor
