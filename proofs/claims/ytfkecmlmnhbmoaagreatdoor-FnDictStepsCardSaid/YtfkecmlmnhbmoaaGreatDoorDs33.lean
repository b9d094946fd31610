import Derived.Test.YtfkecmlmnhbmoaaGreatDoorDs30
import Derived.Test.YtfkecmlmnhbmoaaGreatDoorDs32
import Derived.StillTailTactics
namespace Go.Proofs.YtfkecmlmnhbmoaaGreatDoor
open Go.RowKit Go.Maps
theorem kept_upd {w w' : World} {b : Nat} (h : w.grownBy w' (some b)) : Kept [b] w w' := Kept.of_grown h (fun k hk => by cases hk; simp)
/-- What Insert leaves. -/
def InE (D : DataW Value) (key : ByteArray) (v : Value) (b n : Nat) (w : World) (e : Ending) (w' : World) : Prop :=
  Kept [b] w w' ∧ ((Maps.has D (kl key) = true ∧ e = .returned (.bool false) ∧ w'.ownsMap Tryz.prog 9 RV b n D) ∨ (Maps.has D (kl key) = false ∧ e = .returned (.bool true) ∧ w'.ownsMap Tryz.prog 9 RV b (n + 1) (D.put (kl key) (.held v))))
set_option maxRecDepth 100000 in
set_option maxHeartbeats 3000000 in
theorem insertw (key : ByteArray) (v : Value) (hz : key.size ≤ maxLen) (b n : Nat) (hn : n < maxLen) (D : DataW Value) (w : World) (hown : w.ownsMap Tryz.prog 9 RV b n D) (hs : KS D) :
    Calls Tryz.prog 54 #[.map (some b), .string key, v] w (InE D key v b n w) := by
  have hkey := Go.WideMaps.keyOf_string_mk Tryz.underlying9 hz
  have hcall := find key hz b n D w hown hs
  have HC := Lib.hid hcall; have HO := Lib.hid hown; clear hcall hown hs
  go_enter Tryz.func54, Tryz.ntmps54
  go_wp2_with fail
  refine HC.out.mono ?_
  rintro e w1 ⟨hK, v1, rfl, h1, h2⟩
  obtain ⟨h, hh⟩ : ∃ h, h = Maps.has D (kl key) := ⟨_, rfl⟩
  rw [← hh]
  have HH := Lib.hid hh; clear hh h1 h2
  have hown1 := owns_kept HO.out hK (by simp)
  have HO1 := Lib.hid hown1
  cases h
  · go_wp2_with (at_mapUpdate; refine wpList_mapUpdate_own _ rfl _ _ _ 61 rfl 9 66 law9 Tryz.underlying61 RV b n D rfl hown1 hn _ _ (kl key) rfl rfl hkey (.held v) [] rfl ?_; intro w3 hown3 hg3)
    have hk3 := kept_upd hg3
    have HO3 := Lib.hid hown3; clear hown3 hg3
    go_wp2_with fail
    go_ret
    exact ⟨Kept.trans hK hk3 (by simp) (fun y hy _ => hy), .inr ⟨HH.out.symm, rfl, HO3.out⟩⟩
  · go_wp2_with fail
    go_ret
    exact ⟨hK.mono (by simp), .inl ⟨HH.out.symm, rfl, HO1.out⟩⟩
set_option maxRecDepth 100000 in
set_option maxHeartbeats 3000000 in
theorem updatew (key : ByteArray) (t : Nat) (u : Value) (hz : key.size ≤ maxLen) (b n : Nat) (hn : n < maxLen) (D : DataW Value) (w : World) (hown : w.ownsMap Tryz.prog 9 RV b n D) :
    Calls Tryz.prog 55 #[.map (some b), .string key, .iface t u] w (fun e w' => e = .returned (.tuple #[]) ∧ Kept [b] w w' ∧ w'.ownsMap Tryz.prog 9 RV b (n + 1) (D.put (kl key) (.held (.iface t u)))) := by
  have hkey := Go.WideMaps.keyOf_string_mk Tryz.underlying9 hz
  go_enter Tryz.func55, Tryz.ntmps55
  go_wp2_with (at_mapUpdate; refine wpList_mapUpdate_own _ rfl _ _ _ 61 rfl 9 66 law9 Tryz.underlying61 RV b n D rfl hown hn _ _ (kl key) rfl rfl hkey (.held (.iface t u)) [] rfl ?_; intro w3 hown3 hg3; go_frame)
  have hk3 := kept_upd hg3
  go_end0
  exact ⟨rfl, hk3, hown3⟩
def DlE (D : DataW Value) (key : ByteArray) (b n : Nat) (w : World) (e : Ending) (w' : World) : Prop :=
  Kept [b] w w' ∧ ∃ v, e = .returned v ∧ w'.ownsMap Tryz.prog 9 RV b n (D.del (kl key)) ∧ (Maps.has D (kl key) = true → D.atKey (kl key) (.held .nilIface) = .held v) ∧ (Maps.has D (kl key) = false → v = .nilIface)
set_option maxRecDepth 100000 in
set_option maxHeartbeats 3000000 in
theorem deletew (key : ByteArray) (hz : key.size ≤ maxLen) (b n : Nat) (D : DataW Value) (w : World) (hown : w.ownsMap Tryz.prog 9 RV b n D) (hs : KS D) :
    Calls Tryz.prog 56 #[.map (some b), .string key] w (DlE D key b n w) := by
  have hkey := Go.WideMaps.keyOf_string_mk Tryz.underlying9 hz
  have hcall := find key hz b n D w hown hs
  have HC := Lib.hid hcall; have HO := Lib.hid hown; clear hcall hown hs
  go_enter Tryz.func56, Tryz.ntmps56
  go_wp2_with fail
  refine HC.out.mono ?_
  rintro e w1 ⟨hK, v1, rfl, h1, h2⟩
  obtain ⟨h, hh⟩ : ∃ h, h = Maps.has D (kl key) := ⟨_, rfl⟩
  rw [← hh] at h1 h2 ⊢
  have HH := Lib.hid hh; have H1 := Lib.hid h1; have H2 := Lib.hid h2; clear hh h1 h2
  have hown1 := owns_kept HO.out hK (by simp)
  have HO1 := Lib.hid hown1
  cases h
  · obtain rfl := H2.out rfl
    go_wp2_with fail
    go_ret
    refine ⟨hK.mono (by simp), _, rfl, ?_, fun h => (by rw [← HH.out] at h; cases h), fun _ => rfl⟩
    rw [del_of_not_has HH.out.symm]; exact HO1.out
  · go_wp2_with (at_delete; refine wpList_delete_own _ rfl _ _ 61 9 rfl 66 law9 Tryz.underlying61 RV b n D rfl hown1 _ (kl key) rfl hkey ?_; intro w3 hown3 ht3)
    have hk3 := kept_upd ht3.grown
    have HO3 := Lib.hid hown3; clear hown3 ht3
    go_ret
    exact ⟨Kept.trans hK hk3 (by simp) (fun y hy _ => hy), v1, rfl, HO3.out, fun _ => H1.out trivial, fun h => (by rw [← HH.out] at h; cases h)⟩
theorem hasw (key : ByteArray) (hz : key.size ≤ maxLen) (b n : Nat) (D : DataW Value) (w : World) (hown : w.ownsMap Tryz.prog 9 RV b n D) (hs : KS D) (hi : ∀ v, D.atKey (kl key) (.held .nilIface) = .held v → Maps.has D (kl key) = true → ∃ t u, v = .iface t u) :
    Calls Tryz.prog 57 #[.map (some b), .string key] w (fun e w' => e = .returned (.bool (Maps.has D (kl key))) ∧ Kept [] w w') := by
  have hcall := find key hz b n D w hown hs
  have HC := Lib.hid hcall; have HI := Lib.hid hi; clear hcall hown hs hi
  go_enter Tryz.func57, Tryz.ntmps57
  go_wp2_with fail
  refine HC.out.mono ?_
  rintro e w1 ⟨hK, v1, rfl, h1, h2⟩
  obtain ⟨h, hh⟩ : ∃ h, h = Maps.has D (kl key) := ⟨_, rfl⟩
  rw [← hh] at h1 h2 ⊢
  have HH := Lib.hid hh; have H1 := Lib.hid h1; have H2 := Lib.hid h2; clear hh h1 h2
  cases h
  · obtain rfl := H2.out rfl
    go_wp2_with fail
    go_ret
    exact ⟨by rw [← HH.out]; rfl, hK⟩
  · obtain ⟨t, u, rfl⟩ := HI.out v1 (H1.out rfl) HH.out.symm
    go_wp2_with fail
    go_ret
    exact ⟨by rw [← HH.out]; rfl, hK⟩
def EtE (D : DataW Value) (key : ByteArray) (w : World) (e : Ending) (w' : World) : Prop := Kept [] w w' ∧ ∃ v, e = .returned (.tuple #[v, .bool (Maps.has D (kl key)), .nilIface]) ∧ (Maps.has D (kl key) = true → D.atKey (kl key) (.held .nilIface) = .held v) ∧ (Maps.has D (kl key) = false → v = .nilIface)
theorem entryw (key : ByteArray) (hz : key.size ≤ maxLen) (b n : Nat) (D : DataW Value) (w : World) (hown : w.ownsMap Tryz.prog 9 RV b n D) (hs : KS D) (hi : ∀ v, D.atKey (kl key) (.held .nilIface) = .held v → Maps.has D (kl key) = true → ∃ t u, v = .iface t u) :
    Calls Tryz.prog 58 #[.map (some b), .string ⟨#[]⟩, .string key, .bool false] w (EtE D key w) := by
  have hcall := find key hz b n D w hown hs
  have HC := Lib.hid hcall; have HI := Lib.hid hi; clear hcall hown hs hi
  go_enter Tryz.func58, Tryz.ntmps58
  go_wp2_with fail
  refine HC.out.mono ?_
  rintro e w1 ⟨hK, v1, rfl, h1, h2⟩
  obtain ⟨h, hh⟩ : ∃ h, h = Maps.has D (kl key) := ⟨_, rfl⟩
  rw [← hh] at h1 h2 ⊢
  have HH := Lib.hid hh; have H1 := Lib.hid h1; have H2 := Lib.hid h2; clear hh h1 h2
  cases h
  · obtain rfl := H2.out rfl
    go_wp2_with fail
    go_ret3
    refine ⟨hK, _, ?_, fun h => (by rw [← HH.out] at h; cases h), fun _ => rfl⟩
    rw [← HH.out]; rfl
  · obtain ⟨t, u, rfl⟩ := HI.out v1 (H1.out rfl) HH.out.symm
    go_wp2_with fail
    go_ret3
    refine ⟨hK, _, ?_, fun _ => H1.out trivial, fun h => (by rw [← HH.out] at h; cases h)⟩
    rw [← HH.out]; rfl
theorem errnew (s : ByteArray) (w : World) : Calls Tryz.prog 75 #[.string s] w (fun e w' => (∃ a, e = .returned (.iface 171 (.pointer (some a)))) ∧ Kept [] w w') := by
  go_enter Tryz.func75, Tryz.ntmps75
  go_wp2_with fail
  go_ret
  exact ⟨⟨_, rfl⟩, (Kept.refl [] w).alloc _⟩
/-- What IntEntry hands back. -/
def IeE (D : DataW Value) (key : ByteArray) (w : World) (e : Ending) (w' : World) : Prop := Kept [] w w' ∧
  ((e = .returned (.pointer none) ∧ (Maps.has D (kl key) = true → ∀ n, D.atKey (kl key) (.held .nilIface) ≠ .held (.iface 95 (.int .i64 n)))) ∨
   ∃ q n, e = .returned (.pointer (some ⟨q, 0, none⟩)) ∧ w'.heap[q]? = some (.cells #[.int .i64 n] 3 (0, 0)) ∧ w.heap.size ≤ q ∧ Maps.has D (kl key) = true ∧ D.atKey (kl key) (.held .nilIface) = .held (.iface 95 (.int .i64 n)))
set_option maxHeartbeats 2000000 in
theorem intentry (key : ByteArray) (hz : key.size ≤ maxLen) (b n : Nat) (D : DataW Value) (w : World) (hown : w.ownsMap Tryz.prog 9 RV b n D) (hs : KS D) (hi : ∀ v, D.atKey (kl key) (.held .nilIface) = .held v → Maps.has D (kl key) = true → ∃ t u, v = .iface t u ∧ (t = 95 → ∃ n, u = .int .i64 n)) :
    Calls Tryz.prog 76 #[.map (some b), .string key] w (IeE D key w) := by
  have hcall := find key hz b n D w hown hs
  have HC := Lib.hid hcall; have HI := Lib.hid hi; clear hcall hown hs hi
  have m95 := Tryz.miss95; have h95 := Tryz.hit95
  go_enter Tryz.func76, Tryz.ntmps76
  go_wp2_with fail
  refine HC.out.mono ?_
  rintro e w1 ⟨hK, v1, rfl, h1, h2⟩
  obtain ⟨h, hh⟩ : ∃ h, h = Maps.has D (kl key) := ⟨_, rfl⟩
  rw [← hh] at h1 h2 ⊢
  have HH := Lib.hid hh; have H1 := Lib.hid h1; have H2 := Lib.hid h2; clear hh h1 h2
  cases h
  · obtain rfl := H2.out rfl
    go_wp2_with fail
    go_ret
    exact ⟨hK, .inl ⟨rfl, fun h => (by rw [← HH.out] at h; cases h)⟩⟩
  · obtain ⟨t, u, rfl, ht⟩ := HI.out v1 (H1.out rfl) HH.out.symm
    by_cases h9 : t = 95
    · subst h9
      obtain ⟨m, rfl⟩ := ht rfl
      clear m95 ht
      go_wp2_with fail
      go_ret
      exact ⟨hK.alloc _, .inr ⟨_, m, rfl, heap_at rfl, hK.size, HH.out.symm, H1.out trivial⟩⟩
    · have m := fun (xT : TypeId) (w : World) => m95 t h9 u xT w
      clear m95 h95 ht
      have H9 := Lib.hid h9; clear h9
      go_wp2_with fail
      go_ret
      refine ⟨hK, .inl ⟨rfl, fun _ n e => ?_⟩⟩
      rw [H1.out trivial] at e
      injection e with e
      injection e with e
      exact H9.out e
/-- What IncrementBy leaves. -/
def IbE (D : DataW Value) (key : ByteArray) (m : Int) (b n : Nat) (w : World) (e : Ending) (w' : World) : Prop := Kept [b] w w' ∧
  (((∃ a, e = .returned (.iface 171 (.pointer (some a)))) ∧ w'.ownsMap Tryz.prog 9 RV b n D ∧ (Maps.has D (kl key) = true → ∀ n, D.atKey (kl key) (.held .nilIface) ≠ .held (.iface 95 (.int .i64 n)))) ∨
   ∃ z, e = .returned .nilIface ∧ w'.ownsMap Tryz.prog 9 RV b (n + 1) (D.put (kl key) (.held (.iface 95 (.int .i64 (wrap64 (z + m)))))) ∧ Maps.has D (kl key) = true ∧ D.atKey (kl key) (.held .nilIface) = .held (.iface 95 (.int .i64 z)))
set_option maxRecDepth 100000 in
set_option maxHeartbeats 3000000 in
theorem incrby (key : ByteArray) (hz : key.size ≤ maxLen) (m : Int) (mb b n : Nat) (hn : n < maxLen) (D : DataW Value) (w : World) (hmb : w.cell? ⟨mb, 0, none⟩ = some (.map (some b))) (hown : w.ownsMap Tryz.prog 9 RV b n D) (hs : KS D) (hi : ∀ v, D.atKey (kl key) (.held .nilIface) = .held v → Maps.has D (kl key) = true → ∃ t u, v = .iface t u ∧ (t = 95 → ∃ n, u = .int .i64 n)) :
    Calls Tryz.prog 59 #[.pointer (some ⟨mb, 0, none⟩), .string key, .int .i64 m] w (IbE D key m b n w) := by
  have hmlt := lt_of_cell hmb
  have hcall := intentry key hz b n D w hown hs hi
  have HC := Lib.hid hcall; have HO := Lib.hid hown; clear hcall hown hs hi
  go_enter Tryz.func59, Tryz.ntmps59
  go_wp2_with fail
  refine HC.out.mono ?_
  rintro e w1 ⟨hK, ⟨rfl, hno⟩ | ⟨q, z, rfl, hq, hqs, hh, hat⟩⟩
  · have HNO := Lib.hid hno; clear hno
    go_wp2_with fail
    refine (errnew _ w1).mono ?_
    rintro e w2 ⟨⟨a, rfl⟩, hK2⟩
    have hK3 : Kept [] w w2 := Kept.trans hK hK2 (by simp) (by simp)
    go_wp2_with fail
    go_ret
    exact ⟨hK3.mono (by simp), .inl ⟨⟨a, rfl⟩, owns_kept HO.out hK3 (by simp), HNO.out⟩⟩
  · have HH := Lib.hid hh; have HAT := Lib.hid hat; clear hh hat
    have cq := one_cell hq
    have fq := one_free hq 0
    have hql := lt_of_block hq
    have hmb1 := (hK.cell hmlt (by simp)).trans hmb
    have hne : q ≠ mb := by omega
    have r1 := fun (X : World) (u : Value) => cell_set_other hne 0 0 X u
    have HQ := Lib.hid hq; clear hq
    go_wp2_with fail
    obtain ⟨w2, hw2⟩ : ∃ w2, w2 = w1.setCell ⟨q, 0, none⟩ (.int .i64 (wrap64 (z + m))) := ⟨_, rfl⟩
    rw [← hw2]
    have cq2 : w2.cell? ⟨q, 0, none⟩ = some (.int .i64 (wrap64 (z + m))) := by rw [hw2]; exact World.cell?_setCell_same _ _ _ cq
    have cm2 : w2.cell? ⟨mb, 0, none⟩ = some (.map (some b)) := by rw [hw2, r1]; exact hmb1
    have hK2 : Kept [q] w1 w2 := by rw [hw2]; exact (Kept.refl [q] w1).setCell (.inr (by simp)) _
    have hbl := HO.out.lt
    have hown2 := owns_kept (owns_kept HO.out hK (by simp)) hK2 (by simp; omega)
    have hKw : Kept [] w w2 := Kept.trans hK hK2 (by simp) (fun y hy hl => by simp at hy; omega)
    clear hw2 cq fq hmb1 r1 hmb
    go_still_tail 8, (by kernel_rfl)
    change wpList _ _ _ _ _ w2.drew
    have hKd := (Kept.refl [] w2).drew
    generalize w2.drew = wd at hKd ⊢
    clear cq2 cm2
    have hcall := updatew key 95 (.int .i64 (wrap64 (z + m))) hz b n hn D wd (owns_kept hown2 hKd (by simp))
    have HC2 := Lib.hid hcall; clear hcall hown2
    go_wp2_with fail
    refine HC2.out.mono ?_
    rintro e w3 ⟨rfl, hK3, hown3⟩
    have HO3 := Lib.hid hown3; clear hown3
    go_wp2_with fail
    go_ret
    exact ⟨Kept.trans (Kept.trans (Z := []) hKw hKd (by simp) (by simp)) hK3 (by simp) (fun y hy _ => hy), .inr ⟨z, rfl, HO3.out, HH.out, HAT.out⟩⟩
end Go.Proofs.YtfkecmlmnhbmoaaGreatDoor
namespace Go.Proofs.YtfkecmlmnhbmoaaGreatDoor
open Go.RowKit Go.Maps
abbrev ObN (P : Nat → Prop) (w : World) (n : Nd) (v : Value) : Prop := Ob1 P w n.k n.i n.g n.r n.s n.keys n.kids v
abbrev OkN (n : Nd) : Prop := Ok1 n.k n.i n.g n.r n.s n.keys n.kids
theorem ob_zero {P : Nat → Prop} {w : World} : ObN P w Nd.zero .nilIface := .inl (.inl ⟨rfl, rfl⟩)
theorem ok_zero : OkN Nd.zero :=
  ⟨⟨⟨.inl rfl, .inl rfl, .inl (by unfold fne Nd.zero; rw [show FloatKind.f64.format.order 0 0 = some .eq from feq00]; rfl), .inl (by unfold Nd.zero; rw [ByteArray.toList_eq]; rfl), .inl rfl, .inl rfl⟩, by decide, by decide, (fun h => by cases h), (fun h => by cases h), (fun h => by cases h), (fun h => by cases h)⟩, trivial, ⟨⟨by decide, by decide⟩, ⟨by decide, by decide⟩, ⟨by decide, by decide⟩, by decide, by decide⟩, by simp [Nd.zero], trivial⟩
theorem ok_int {n : Int} (h : I64 n) : NdOk (Nd.int n) :=
  ⟨⟨⟨⟨.inr (.inr (.inl rfl)), .inl rfl, .inl (by unfold fne Nd.int; rw [show FloatKind.f64.format.order 0 0 = some .eq from feq00]; rfl), .inl (by unfold Nd.int; rw [ByteArray.toList_eq]; rfl), .inl rfl, .inl rfl⟩, (by simp [Nd.int]), (by simp [Nd.int]), (fun h => by cases h), (fun h => by cases h), (fun h => by cases h), (fun h => by cases h)⟩, trivial, ⟨⟨by simp [Nd.int], by simp [Nd.int]⟩, h, ⟨by simp [Nd.int], by simp [Nd.int]⟩, by simp [Nd.int], Nat.zero_le _⟩, by simp [Nd.int], trivial⟩, by simp [Nd.int]⟩
/-- Blocks between H and M, but for those of a set. -/
def FrR (R : Nat → Prop) (H M : Nat) : Nat → Prop := fun b => H ≤ b ∧ b < M ∧ ¬ R b
variable {R : Nat → Prop}
/-- The values of a map stand for those of a dictionary. -/
def VP (R : Nat → Prop) (H : Nat) (w : World) (D : DataW Value) (d : Di) : Prop := ∀ s n, d.At s n → ∃ v, D.atKey (kl s) (.held .nilIface) = .held v ∧ ObN (FrR R H w.heap.size) w n v
theorem VP.kept {H : Nat} {w w' : World} {D : DataW Value} {d : Di} {X : List Nat} (h : VP R H w D d) (hk : Kept X w w') (hX : ∀ x ∈ X, x < H ∨ R x) : VP R H w' D d := fun s n hn => by
  obtain ⟨v, h1, h2⟩ := h s n hn
  refine ⟨v, h1, (h2.kept hk fun b hb => ?_).mono fun b hb => ?_⟩
  · exact ⟨hb.2.1, fun hm => by
      rcases hX b hm with h | h
      · have := hb.1; omega
      · exact hb.2.2 h⟩
  · exact ⟨hb.1, Nat.lt_of_lt_of_le hb.2.1 hk.size, hb.2.2⟩
theorem VP.put {H : Nat} {w : World} {D : DataW Value} {d d' : Di} {key : ByteArray} {y : Nd} {vy : Value} (h : VP R H w D d) (hm : IsMap D) (hp : PutR d key y d') (hy : ObN (FrR R H w.heap.size) w y vy) : VP R H w (D.put (kl key) (.held vy)) d' := fun s n hn => by
  rcases (hp.at' s n).1 hn with ⟨rfl, rfl⟩ | ⟨hne, h1⟩
  · exact ⟨vy, atKey_put_same hm (kl_key _) _ _, hy⟩
  · obtain ⟨v, h2, h3⟩ := h s n h1
    exact ⟨v, by rw [atKey_put_other (fun e => hne (kl_inj e))]; exact h2, h3⟩
theorem VP.drop {H : Nat} {w : World} {D : DataW Value} {d d' : Di} {key : ByteArray} (h : VP R H w D d) (hp : DropR d key d') : VP R H w (D.del (kl key)) d' := fun s n hn => by
  obtain ⟨hne, h1⟩ := (hp.at' s n).1 hn
  obtain ⟨v, h2, h3⟩ := h s n h1
  exact ⟨v, by rw [atKey_del_other (fun e => hne (kl_inj e))]; exact h2, h3⟩
theorem obn_kept {H : Nat} {w w' : World} {n : Nd} {v : Value} {X : List Nat} (h : ObN (FrR R H w.heap.size) w n v) (hk : Kept X w w') (hX : ∀ x ∈ X, x < H ∨ R x) : ObN (FrR R H w'.heap.size) w' n v := by
  refine (Ob1.kept h hk fun b hb => ?_).mono fun b hb => ?_
  · exact ⟨hb.2.1, fun hm => by
      rcases hX b hm with h | h
      · have := hb.1; omega
      · exact hb.2.2 h⟩
  · exact ⟨hb.1, Nat.lt_of_lt_of_le hb.2.1 hk.size, hb.2.2⟩
theorem obn_iface {P : Nat → Prop} {w : World} {n : Nd} {v : Value} (h : ObN P w n v) (hn : n.k ≠ 0) : ∃ t u, v = .iface t u := by
  rcases Ob1.ifv h with rfl | h2
  · exact absurd ((Ob1.null h).1 rfl) hn
  · exact h2
/-- A map has just a dictionary's keys. -/
def HasD (D : DataW Value) (d : Di) : Prop := ∀ s, Maps.has D (kl s) = true ↔ s ∈ d.keys
theorem HasD.put {D : DataW Value} {d d' : Di} {key : ByteArray} {y : Nd} (h : HasD D d) (hm : IsMap D) (hd : DiOk d) (hp : PutR d key y d') (v : DataW Value) : HasD (D.put (kl key) v) d' := fun s => by
  rw [hp.mem hd s]
  by_cases e : s = key
  · subst e; exact ⟨fun _ => .inl rfl, fun _ => has_put_same hm (kl_key _) v⟩
  · rw [has_put_other (fun h => e (kl_inj h)), h s]
    exact ⟨.inr, fun h => h.resolve_left e⟩
theorem HasD.drop {D : DataW Value} {d d' : Di} {key : ByteArray} (h : HasD D d) (hd : DiOk d) (hp : DropR d key d') : HasD (D.del (kl key)) d' := fun s => by
  rw [hp.mem hd s]
  by_cases e : s = key
  · subst e; rw [has_del_same]; exact ⟨(fun h => by cases h), fun h => absurd rfl h.1⟩
  · rw [has_del_other (fun h => e (kl_inj h)), h s]
    exact ⟨fun h => ⟨e, h⟩, fun h => h.2⟩
theorem HasD.no {D : DataW Value} {d : Di} (h : HasD D d) {s : ByteArray} (hs : s ∉ d.keys) : Maps.has D (kl s) = false := by
  cases hh : Maps.has D (kl s)
  · rfl
  · exact absurd ((h s).1 hh) hs
structure RepM (R : Nat → Prop) (H B bd : Nat) (w : World) (d : Di) : Prop where
  ex : ∃ n D, w.ownsMap Tryz.prog 9 RV B n D ∧ n ≤ bd ∧ HasD D d ∧ VP R H w D d
theorem RepM.kept {H B bd : Nat} {w w' : World} {d : Di} (h : RepM R H B bd w d) (hk : Kept [] w w') : RepM R H B bd w' d := by
  obtain ⟨n, D, h1, h2, h3, h4⟩ := h
  exact ⟨n, D, owns_kept h1 hk (by simp), h2, h3, h4.kept hk (by simp)⟩
theorem RepM.more {H B bd : Nat} {w : World} {d : Di} (h : RepM R H B bd w d) : RepM R H B (bd + 1) w d := by
  obtain ⟨n, D, h1, h2, h3, h4⟩ := h
  exact ⟨n, D, h1, by omega, h3, h4⟩
/-- What is looked for in a map. -/
theorem VP.iface {H : Nat} {w : World} {D : DataW Value} {d : Di} (h : VP R H w D d) (hd : DiOk d) (hh : HasD D d) (key : ByteArray) : ∀ v, D.atKey (kl key) (.held .nilIface) = .held v → Maps.has D (kl key) = true → ∃ t u, v = .iface t u ∧ (t = 95 → ∃ n, u = .int .i64 n) := fun v hv hk => by
  obtain ⟨n, hn⟩ := hd.at ((hh key).1 hk)
  obtain ⟨v', h1, h2⟩ := h key n hn
  have e : v = v' := by rw [hv] at h1; injection h1
  subst e
  obtain ⟨j, _, hj⟩ := hn
  have hnn := (hd.ok j n hj).nn
  rcases h2 with (⟨_, e⟩ | ⟨_, _, e⟩ | ⟨_, _, e⟩ | ⟨_, e⟩ | ⟨_, e⟩ | ⟨_, e⟩ | ⟨_, e⟩ | ⟨_, e⟩ | ⟨_, e⟩) | ⟨_, _, _, _, e, _⟩ | ⟨_, _, _, _, _, e, _⟩
  · rename_i h0; exact absurd h0 hnn
  all_goals subst e
  all_goals first | exact ⟨_, _, rfl, fun _ => ⟨_, rfl⟩⟩ | exact ⟨_, _, rfl, fun h => absurd h (by decide)⟩
theorem ob95 {P : Nat → Prop} {w : World} {n : Nd} {z : Int} (h : ObN P w n (.iface 95 (.int .i64 z))) : n.k = 2 ∧ n.i = z := by
  rcases h with (⟨_, e⟩ | ⟨_, _, e⟩ | ⟨_, _, e⟩ | ⟨h, e⟩ | ⟨_, e⟩ | ⟨_, e⟩ | ⟨_, e⟩ | ⟨_, e⟩ | ⟨_, e⟩) | ⟨_, _, _, _, e, _⟩ | ⟨_, _, _, _, _, e, _⟩
  all_goals first | (cases e; exact ⟨h, rfl⟩) | cases e
theorem ob2 {P : Nat → Prop} {w : World} {n : Nd} {v : Value} (h : ObN P w n v) (h2 : n.k = 2) : v = .iface 95 (.int .i64 n.i) := by
  rcases h with (⟨h, e⟩ | ⟨h, _, e⟩ | ⟨h, _, e⟩ | ⟨h, e⟩ | ⟨h, e⟩ | ⟨h, e⟩ | ⟨h, e⟩ | ⟨h, e⟩ | ⟨h, e⟩) | ⟨h, _, _, _, e, _⟩ | ⟨h, _, _, _, _, e, _⟩
  all_goals first | exact e | (rw [h2] at h; exact absurd h (by decide))
theorem nine {w : World} {b t : Nat} {x0 x1 x2 x3 x4 x5 x6 x7 x8 : Value} (h : w.heap[b]? = some (.cells #[x0, x1, x2, x3, x4, x5, x6, x7, x8] t (0, 0))) :
    w.cell? ⟨b, 0, none⟩ = some x0 ∧ w.cell? ⟨b, 1, none⟩ = some x1 ∧ w.cell? ⟨b, 2, none⟩ = some x2 ∧ w.cell? ⟨b, 3, none⟩ = some x3 ∧ w.cell? ⟨b, 4, none⟩ = some x4 ∧ w.cell? ⟨b, 5, none⟩ = some x5 ∧ w.cell? ⟨b, 6, none⟩ = some x6 ∧ w.cell? ⟨b, 7, none⟩ = some x7 ∧ w.cell? ⟨b, 8, none⟩ = some x8 := by
  simp [World.cell?, h]
end Go.Proofs.YtfkecmlmnhbmoaaGreatDoor
namespace Go.Proofs.YtfkecmlmnhbmoaaGreatDoor
open Go.RowKit Go.Maps
/-- What impl.step hands back. -/
def SpE (R : Nat → Prop) (H B bd : Nat) (d' : Di) (op : Int) (told : Bool) (v : Nd) (w : World) (e : Ending) (w' : World) : Prop := Kept [B] w w' ∧ RepM R H B (bd + 1) w' d' ∧
  ∃ (says : Bool) (val : Value) (nv : Nd), e = .returned (.tuple #[.bool says, val, .bool true]) ∧ (op ≠ 2 → says = told) ∧ ObN (FrR R H w'.heap.size) w' nv val ∧ OkN nv ∧ (op = 2 ∨ op = 3 ∨ op = 5 → nv = v)
set_option maxRecDepth 100000 in
set_option maxHeartbeats 8000000 in
theorem stepw (R : Nat → Prop) (H B bd : Nat) (d d' : Di) (op : Int) (key : ByteArray) (y : Nd) (told : Bool) (v : Nd) (N : Nat) (ka : Option Addr) (kc : Nat) (a : Option Addr) (cap : Nat) (w : World) (hr : RepM R H B bd w d) (hd : DiOk d) (hst : StepR d op key y d' told v)
    (hy : Node (Lt N) w y.k y.i y.g y.r y.s y.keys y.kids ka kc a cap) (hyo : NdOk y) (hN : N ≤ w.heap.size) (hH : H ≤ w.heap.size) (hB : B < H) (hbd : bd + 1 < maxLen) (hkey : Simp key) (hRs : ∀ x, R x → x < w.heap.size) :
    Calls Tryz.prog 37 #[.map (some B), .agg #[.int .i64 op, .string key, .int .i64 y.k, .int .i64 y.i, .int .i64 y.g, .float .f64 y.r, .string y.s, .slice ka y.keys.length kc, .slice a y.kids.len cap]] w (SpE R H B bd d' op told v w) := by
  rcases hst with ⟨rfl, hk⟩ | ⟨rfl, hk, hp⟩ | ⟨rfl, hk, hp⟩ | ⟨rfl, hk, hp⟩ | ⟨rfl, hk, hp⟩ | ⟨h, hk⟩ | ⟨h, hk⟩ | ⟨rfl, hk⟩ | ⟨rfl, hk, h2, hp⟩
  · have HK := Lib.hid hk; clear hk
    have hgy := hyo.ok.good1
    have HRs := Lib.hid hRs; clear hRs
    obtain ⟨w0, hw0⟩ : ∃ w0, w0 = (w.alloc (.cells #[.map (some B)] 61)).alloc (.cells #[.int .i64 0, .string key, .int .i64 y.k, .int .i64 y.i, .int .i64 y.g, .float .f64 y.r, .string y.s, .slice ka y.keys.length kc, .slice a y.kids.len cap] 45) := ⟨_, rfl⟩
    have hK0 : Kept [] w w0 := by rw [hw0]; exact ((Kept.refl [] w).alloc _).alloc _
    have hX1 : w0.heap[w.heap.size]? = some (.cells #[.map (some B)] 61 (0, 0)) := by rw [hw0, heap_lt (by simp)]; exact heap_at rfl
    have hX2 : w0.heap[w.heap.size + 1]? = some (.cells #[.int .i64 0, .string key, .int .i64 y.k, .int .i64 y.i, .int .i64 y.g, .float .f64 y.r, .string y.s, .slice ka y.keys.length kc, .slice a y.kids.len cap] 45 (0, 0)) := by rw [hw0]; exact heap_at (by simp)
    obtain ⟨c0, c1, c2, c3, c4, c5, c6, c7, c8⟩ := nine hX2
    have hcall := (ob_node y.k y.i y.g y.r y.s y.keys y.kids) N ka kc a cap w0 (hy.kept hK0 (ltk hN (by simp))) (Nat.le_trans hN hK0.size) hgy hyo.ok.good
    have HC := Lib.hid hcall; have HX1 := Lib.hid hX1; have HX2 := Lib.hid hX2; have HR := Lib.hid hr; have HD := Lib.hid hd; have HYO := Lib.hid hyo; have HKY := Lib.hid hkey; clear hcall hX1 hX2 hr hd hyo hgy hy
    have hz : key.size ≤ maxLen := by have := hkey.hi; unfold maxLen; omega
    clear hkey
    go_enter Tryz.func37, Tryz.ntmps37
    go_upto_region 1 with fail
    rw [← hw0]
    clear hw0
    go_wp2_with fail
    refine HC.out.mono ?_
    rintro e w1 ⟨hK1, vy, rfl, hvy⟩
    have hK2 : Kept [] w w1 := Kept.trans hK0 hK1 (by simp) (by simp)
    have hX1' := (hK1.block w.heap.size (lt_of_block HX1.out) (by simp)).trans HX1.out
    have hX2' := (hK1.block (w.heap.size + 1) (lt_of_block HX2.out) (by simp)).trans HX2.out
    have hm := one_cell hX1'
    clear c0 c1 c2 c3 c4 c5 c6 c7 c8
    obtain ⟨c0, c1, c2, c3, c4, c5, c6, c7, c8⟩ := nine hX2'
    have hlt1 := lt_of_block hX1'
    have hvy1 : ObN (FrR R H w1.heap.size) w1 y vy := Ob1.mono (fun b hb => by
      rcases hb with h | ⟨h1, h2⟩
      · omega
      · exact ⟨by have := hK0.size; omega, h2, fun hr => by have := HRs.out b hr; have := hK0.size; omega⟩) hvy
    obtain ⟨n, D, hown, hn, hh, hvp⟩ := HR.out.kept hK2
    have hks : KS D := fun s hs => HD.out.simp s ((hh s).1 hs)
    have hif := hvp.iface HD.out hh key
    have HVY := Lib.hid hvy1; have HO := Lib.hid hown; have HH := Lib.hid hh; have HVP := Lib.hid hvp; have HKS := Lib.hid hks; have HIF := Lib.hid hif; clear hX1' hX2' hvy hvy1 hown hh hvp hks hif
    go_wp2_with fail
    refine (insertw key vy hz B n (by omega) D w1 HO.out HKS.out).mono ?_
    rintro e w2 ⟨hK3, ⟨hf, rfl, hown2⟩ | ⟨hf, _⟩⟩
    case' inr => rw [(HH.out key).2 HK.out] at hf; cases hf
    have HO2 := Lib.hid hown2; clear hown2 hf
    go_wp2_with fail
    go_ret3
    have hb : H ≤ w1.heap.size := Nat.le_trans hH hK2.size
    exact ⟨Kept.trans hK2 hK3 (by simp) (fun y hy _ => hy), ⟨n, D, HO2.out, by omega, HH.out, HVP.out.kept hK3 (fun x hx => .inl (by rw [List.mem_singleton.1 hx]; exact hB))⟩, false, _, Nd.zero, rfl, fun _ => rfl, ob_zero, ok_zero, fun h => by omega⟩
  · have HK := Lib.hid hk; have HP := Lib.hid hp; clear hk hp
    have hgy := hyo.ok.good1
    have HRs := Lib.hid hRs; clear hRs
    obtain ⟨w0, hw0⟩ : ∃ w0, w0 = (w.alloc (.cells #[.map (some B)] 61)).alloc (.cells #[.int .i64 0, .string key, .int .i64 y.k, .int .i64 y.i, .int .i64 y.g, .float .f64 y.r, .string y.s, .slice ka y.keys.length kc, .slice a y.kids.len cap] 45) := ⟨_, rfl⟩
    have hK0 : Kept [] w w0 := by rw [hw0]; exact ((Kept.refl [] w).alloc _).alloc _
    have hX1 : w0.heap[w.heap.size]? = some (.cells #[.map (some B)] 61 (0, 0)) := by rw [hw0, heap_lt (by simp)]; exact heap_at rfl
    have hX2 : w0.heap[w.heap.size + 1]? = some (.cells #[.int .i64 0, .string key, .int .i64 y.k, .int .i64 y.i, .int .i64 y.g, .float .f64 y.r, .string y.s, .slice ka y.keys.length kc, .slice a y.kids.len cap] 45 (0, 0)) := by rw [hw0]; exact heap_at (by simp)
    obtain ⟨c0, c1, c2, c3, c4, c5, c6, c7, c8⟩ := nine hX2
    have hcall := (ob_node y.k y.i y.g y.r y.s y.keys y.kids) N ka kc a cap w0 (hy.kept hK0 (ltk hN (by simp))) (Nat.le_trans hN hK0.size) hgy hyo.ok.good
    have HC := Lib.hid hcall; have HX1 := Lib.hid hX1; have HX2 := Lib.hid hX2; have HR := Lib.hid hr; have HD := Lib.hid hd; have HYO := Lib.hid hyo; have HKY := Lib.hid hkey; clear hcall hX1 hX2 hr hd hyo hgy hy
    have hz : key.size ≤ maxLen := by have := hkey.hi; unfold maxLen; omega
    clear hkey
    go_enter Tryz.func37, Tryz.ntmps37
    go_upto_region 1 with fail
    rw [← hw0]
    clear hw0
    go_wp2_with fail
    refine HC.out.mono ?_
    rintro e w1 ⟨hK1, vy, rfl, hvy⟩
    have hK2 : Kept [] w w1 := Kept.trans hK0 hK1 (by simp) (by simp)
    have hX1' := (hK1.block w.heap.size (lt_of_block HX1.out) (by simp)).trans HX1.out
    have hX2' := (hK1.block (w.heap.size + 1) (lt_of_block HX2.out) (by simp)).trans HX2.out
    have hm := one_cell hX1'
    clear c0 c1 c2 c3 c4 c5 c6 c7 c8
    obtain ⟨c0, c1, c2, c3, c4, c5, c6, c7, c8⟩ := nine hX2'
    have hlt1 := lt_of_block hX1'
    have hvy1 : ObN (FrR R H w1.heap.size) w1 y vy := Ob1.mono (fun b hb => by
      rcases hb with h | ⟨h1, h2⟩
      · omega
      · exact ⟨by have := hK0.size; omega, h2, fun hr => by have := HRs.out b hr; have := hK0.size; omega⟩) hvy
    obtain ⟨n, D, hown, hn, hh, hvp⟩ := HR.out.kept hK2
    have hks : KS D := fun s hs => HD.out.simp s ((hh s).1 hs)
    have hif := hvp.iface HD.out hh key
    have HVY := Lib.hid hvy1; have HO := Lib.hid hown; have HH := Lib.hid hh; have HVP := Lib.hid hvp; have HKS := Lib.hid hks; have HIF := Lib.hid hif; clear hX1' hX2' hvy hvy1 hown hh hvp hks hif
    go_wp2_with fail
    refine (insertw key vy hz B n (by omega) D w1 HO.out HKS.out).mono ?_
    rintro e w2 ⟨hK3, ⟨hf, _⟩ | ⟨hf, rfl, hown2⟩⟩
    case' inl => rw [HH.out.no HK.out] at hf; cases hf
    have HO2 := Lib.hid hown2; clear hown2 hf
    go_wp2_with fail
    go_ret3
    have him := HO.out.isMap
    exact ⟨Kept.trans hK2 hK3 (by simp) (fun y hy _ => hy), ⟨n + 1, _, HO2.out, by omega, HH.out.put him HD.out HP.out _, (HVP.out.kept hK3 (fun x hx => .inl (by rw [List.mem_singleton.1 hx]; exact hB))).put him HP.out (obn_kept HVY.out hK3 (fun x hx => .inl (by rw [List.mem_singleton.1 hx]; exact hB)))⟩, true, _, Nd.zero, rfl, fun _ => rfl, ob_zero, ok_zero, fun h => by omega⟩
  · have HK := Lib.hid hk; have HP := Lib.hid hp; clear hk hp
    have hgy := hyo.ok.good1
    have HRs := Lib.hid hRs; clear hRs
    obtain ⟨w0, hw0⟩ : ∃ w0, w0 = (w.alloc (.cells #[.map (some B)] 61)).alloc (.cells #[.int .i64 1, .string key, .int .i64 y.k, .int .i64 y.i, .int .i64 y.g, .float .f64 y.r, .string y.s, .slice ka y.keys.length kc, .slice a y.kids.len cap] 45) := ⟨_, rfl⟩
    have hK0 : Kept [] w w0 := by rw [hw0]; exact ((Kept.refl [] w).alloc _).alloc _
    have hX1 : w0.heap[w.heap.size]? = some (.cells #[.map (some B)] 61 (0, 0)) := by rw [hw0, heap_lt (by simp)]; exact heap_at rfl
    have hX2 : w0.heap[w.heap.size + 1]? = some (.cells #[.int .i64 1, .string key, .int .i64 y.k, .int .i64 y.i, .int .i64 y.g, .float .f64 y.r, .string y.s, .slice ka y.keys.length kc, .slice a y.kids.len cap] 45 (0, 0)) := by rw [hw0]; exact heap_at (by simp)
    obtain ⟨c0, c1, c2, c3, c4, c5, c6, c7, c8⟩ := nine hX2
    have hcall := (ob_node y.k y.i y.g y.r y.s y.keys y.kids) N ka kc a cap w0 (hy.kept hK0 (ltk hN (by simp))) (Nat.le_trans hN hK0.size) hgy hyo.ok.good
    have HC := Lib.hid hcall; have HX1 := Lib.hid hX1; have HX2 := Lib.hid hX2; have HR := Lib.hid hr; have HD := Lib.hid hd; have HYO := Lib.hid hyo; have HKY := Lib.hid hkey; clear hcall hX1 hX2 hr hd hyo hgy hy
    have hz : key.size ≤ maxLen := by have := hkey.hi; unfold maxLen; omega
    clear hkey
    go_enter Tryz.func37, Tryz.ntmps37
    go_upto_region 1 with fail
    rw [← hw0]
    clear hw0
    go_wp2_with fail
    refine HC.out.mono ?_
    rintro e w1 ⟨hK1, vy, rfl, hvy⟩
    have hK2 : Kept [] w w1 := Kept.trans hK0 hK1 (by simp) (by simp)
    have hX1' := (hK1.block w.heap.size (lt_of_block HX1.out) (by simp)).trans HX1.out
    have hX2' := (hK1.block (w.heap.size + 1) (lt_of_block HX2.out) (by simp)).trans HX2.out
    have hm := one_cell hX1'
    clear c0 c1 c2 c3 c4 c5 c6 c7 c8
    obtain ⟨c0, c1, c2, c3, c4, c5, c6, c7, c8⟩ := nine hX2'
    have hlt1 := lt_of_block hX1'
    have hvy1 : ObN (FrR R H w1.heap.size) w1 y vy := Ob1.mono (fun b hb => by
      rcases hb with h | ⟨h1, h2⟩
      · omega
      · exact ⟨by have := hK0.size; omega, h2, fun hr => by have := HRs.out b hr; have := hK0.size; omega⟩) hvy
    obtain ⟨n, D, hown, hn, hh, hvp⟩ := HR.out.kept hK2
    have hks : KS D := fun s hs => HD.out.simp s ((hh s).1 hs)
    have hif := hvp.iface HD.out hh key
    have HVY := Lib.hid hvy1; have HO := Lib.hid hown; have HH := Lib.hid hh; have HVP := Lib.hid hvp; have HKS := Lib.hid hks; have HIF := Lib.hid hif; clear hX1' hX2' hvy hvy1 hown hh hvp hks hif
    obtain ⟨t, u, rfl⟩ := obn_iface HVY.out HYO.out.nn
    go_wp2_with fail
    refine (updatew key t u hz B n (by omega) D w1 HO.out).mono ?_
    rintro e w2 ⟨rfl, hK3, hown2⟩
    have HO2 := Lib.hid hown2; clear hown2
    go_wp2_with fail
    go_ret3
    have him := HO.out.isMap
    exact ⟨Kept.trans hK2 hK3 (by simp) (fun y hy _ => hy), ⟨n + 1, _, HO2.out, by omega, HH.out.put him HD.out HP.out _, (HVP.out.kept hK3 (fun x hx => .inl (by rw [List.mem_singleton.1 hx]; exact hB))).put him HP.out (obn_kept HVY.out hK3 (fun x hx => .inl (by rw [List.mem_singleton.1 hx]; exact hB)))⟩, true, _, Nd.zero, rfl, fun _ => rfl, ob_zero, ok_zero, fun h => by omega⟩
  · have HK := Lib.hid hk; have HP := Lib.hid hp; clear hk hp
    have hgy := hyo.ok.good1
    have HRs := Lib.hid hRs; clear hRs
    obtain ⟨w0, hw0⟩ : ∃ w0, w0 = (w.alloc (.cells #[.map (some B)] 61)).alloc (.cells #[.int .i64 2, .string key, .int .i64 y.k, .int .i64 y.i, .int .i64 y.g, .float .f64 y.r, .string y.s, .slice ka y.keys.length kc, .slice a y.kids.len cap] 45) := ⟨_, rfl⟩
    have hK0 : Kept [] w w0 := by rw [hw0]; exact ((Kept.refl [] w).alloc _).alloc _
    have hX1 : w0.heap[w.heap.size]? = some (.cells #[.map (some B)] 61 (0, 0)) := by rw [hw0, heap_lt (by simp)]; exact heap_at rfl
    have hX2 : w0.heap[w.heap.size + 1]? = some (.cells #[.int .i64 2, .string key, .int .i64 y.k, .int .i64 y.i, .int .i64 y.g, .float .f64 y.r, .string y.s, .slice ka y.keys.length kc, .slice a y.kids.len cap] 45 (0, 0)) := by rw [hw0]; exact heap_at (by simp)
    obtain ⟨c0, c1, c2, c3, c4, c5, c6, c7, c8⟩ := nine hX2
    have hcall := (ob_node y.k y.i y.g y.r y.s y.keys y.kids) N ka kc a cap w0 (hy.kept hK0 (ltk hN (by simp))) (Nat.le_trans hN hK0.size) hgy hyo.ok.good
    have HC := Lib.hid hcall; have HX1 := Lib.hid hX1; have HX2 := Lib.hid hX2; have HR := Lib.hid hr; have HD := Lib.hid hd; have HYO := Lib.hid hyo; have HKY := Lib.hid hkey; clear hcall hX1 hX2 hr hd hyo hgy hy
    have hz : key.size ≤ maxLen := by have := hkey.hi; unfold maxLen; omega
    clear hkey
    go_enter Tryz.func37, Tryz.ntmps37
    go_upto_region 1 with fail
    rw [← hw0]
    clear hw0
    go_wp2_with fail
    refine HC.out.mono ?_
    rintro e w1 ⟨hK1, vy, rfl, hvy⟩
    have hK2 : Kept [] w w1 := Kept.trans hK0 hK1 (by simp) (by simp)
    have hX1' := (hK1.block w.heap.size (lt_of_block HX1.out) (by simp)).trans HX1.out
    have hX2' := (hK1.block (w.heap.size + 1) (lt_of_block HX2.out) (by simp)).trans HX2.out
    have hm := one_cell hX1'
    clear c0 c1 c2 c3 c4 c5 c6 c7 c8
    obtain ⟨c0, c1, c2, c3, c4, c5, c6, c7, c8⟩ := nine hX2'
    have hlt1 := lt_of_block hX1'
    have hvy1 : ObN (FrR R H w1.heap.size) w1 y vy := Ob1.mono (fun b hb => by
      rcases hb with h | ⟨h1, h2⟩
      · omega
      · exact ⟨by have := hK0.size; omega, h2, fun hr => by have := HRs.out b hr; have := hK0.size; omega⟩) hvy
    obtain ⟨n, D, hown, hn, hh, hvp⟩ := HR.out.kept hK2
    have hks : KS D := fun s hs => HD.out.simp s ((hh s).1 hs)
    have hif := hvp.iface HD.out hh key
    have HVY := Lib.hid hvy1; have HO := Lib.hid hown; have HH := Lib.hid hh; have HVP := Lib.hid hvp; have HKS := Lib.hid hks; have HIF := Lib.hid hif; clear hX1' hX2' hvy hvy1 hown hh hvp hks hif
    obtain ⟨v', hv1, hv2⟩ := HVP.out key v HK.out
    have hhas := (HH.out key).2 HK.out.mem
    have HV1 := Lib.hid hv1; have HV2 := Lib.hid hv2; have HHAS := Lib.hid hhas; clear hv1 hv2 hhas
    go_wp2_with fail
    refine (deletew key hz B n D w1 HO.out HKS.out).mono ?_
    rintro e w2 ⟨hK3, v1, rfl, hown2, h1, _⟩
    obtain rfl : v1 = v' := by have := (h1 HHAS.out).symm.trans HV1.out; injection this
    obtain ⟨j, _, hj⟩ := HK.out
    obtain ⟨t, u, rfl⟩ := obn_iface HV2.out (HD.out.ok j v hj).nn
    have HJ := Lib.hid hj
    have HO2 := Lib.hid hown2; clear hown2 h1 hj
    go_wp2_with fail
    go_ret3
    exact ⟨Kept.trans hK2 hK3 (by simp) (fun y hy _ => hy), ⟨n, _, HO2.out, by omega, HH.out.drop HD.out HP.out, (HVP.out.kept hK3 (fun x hx => .inl (by rw [List.mem_singleton.1 hx]; exact hB))).drop HP.out⟩, true, _, v, rfl, fun h => absurd rfl h, obn_kept HV2.out hK3 (fun x hx => .inl (by rw [List.mem_singleton.1 hx]; exact hB)), (HD.out.ok j v HJ.out).ok, fun _ => rfl⟩
  · have HK := Lib.hid hk; have HP := Lib.hid hp; clear hk hp
    have hgy := hyo.ok.good1
    have HRs := Lib.hid hRs; clear hRs
    obtain ⟨w0, hw0⟩ : ∃ w0, w0 = (w.alloc (.cells #[.map (some B)] 61)).alloc (.cells #[.int .i64 2, .string key, .int .i64 y.k, .int .i64 y.i, .int .i64 y.g, .float .f64 y.r, .string y.s, .slice ka y.keys.length kc, .slice a y.kids.len cap] 45) := ⟨_, rfl⟩
    have hK0 : Kept [] w w0 := by rw [hw0]; exact ((Kept.refl [] w).alloc _).alloc _
    have hX1 : w0.heap[w.heap.size]? = some (.cells #[.map (some B)] 61 (0, 0)) := by rw [hw0, heap_lt (by simp)]; exact heap_at rfl
    have hX2 : w0.heap[w.heap.size + 1]? = some (.cells #[.int .i64 2, .string key, .int .i64 y.k, .int .i64 y.i, .int .i64 y.g, .float .f64 y.r, .string y.s, .slice ka y.keys.length kc, .slice a y.kids.len cap] 45 (0, 0)) := by rw [hw0]; exact heap_at (by simp)
    obtain ⟨c0, c1, c2, c3, c4, c5, c6, c7, c8⟩ := nine hX2
    have hcall := (ob_node y.k y.i y.g y.r y.s y.keys y.kids) N ka kc a cap w0 (hy.kept hK0 (ltk hN (by simp))) (Nat.le_trans hN hK0.size) hgy hyo.ok.good
    have HC := Lib.hid hcall; have HX1 := Lib.hid hX1; have HX2 := Lib.hid hX2; have HR := Lib.hid hr; have HD := Lib.hid hd; have HYO := Lib.hid hyo; have HKY := Lib.hid hkey; clear hcall hX1 hX2 hr hd hyo hgy hy
    have hz : key.size ≤ maxLen := by have := hkey.hi; unfold maxLen; omega
    clear hkey
    go_enter Tryz.func37, Tryz.ntmps37
    go_upto_region 1 with fail
    rw [← hw0]
    clear hw0
    go_wp2_with fail
    refine HC.out.mono ?_
    rintro e w1 ⟨hK1, vy, rfl, hvy⟩
    have hK2 : Kept [] w w1 := Kept.trans hK0 hK1 (by simp) (by simp)
    have hX1' := (hK1.block w.heap.size (lt_of_block HX1.out) (by simp)).trans HX1.out
    have hX2' := (hK1.block (w.heap.size + 1) (lt_of_block HX2.out) (by simp)).trans HX2.out
    have hm := one_cell hX1'
    clear c0 c1 c2 c3 c4 c5 c6 c7 c8
    obtain ⟨c0, c1, c2, c3, c4, c5, c6, c7, c8⟩ := nine hX2'
    have hlt1 := lt_of_block hX1'
    have hvy1 : ObN (FrR R H w1.heap.size) w1 y vy := Ob1.mono (fun b hb => by
      rcases hb with h | ⟨h1, h2⟩
      · omega
      · exact ⟨by have := hK0.size; omega, h2, fun hr => by have := HRs.out b hr; have := hK0.size; omega⟩) hvy
    obtain ⟨n, D, hown, hn, hh, hvp⟩ := HR.out.kept hK2
    have hks : KS D := fun s hs => HD.out.simp s ((hh s).1 hs)
    have hif := hvp.iface HD.out hh key
    have HVY := Lib.hid hvy1; have HO := Lib.hid hown; have HH := Lib.hid hh; have HVP := Lib.hid hvp; have HKS := Lib.hid hks; have HIF := Lib.hid hif; clear hX1' hX2' hvy hvy1 hown hh hvp hks hif
    have hhas := HH.out.no HK.out
    have HHAS := Lib.hid hhas; clear hhas
    go_wp2_with fail
    refine (deletew key hz B n D w1 HO.out HKS.out).mono ?_
    rintro e w2 ⟨hK3, v1, rfl, hown2, _, h2⟩
    obtain rfl := h2 HHAS.out
    have HO2 := Lib.hid hown2; clear hown2 h2
    go_wp2_with fail
    go_ret3
    exact ⟨Kept.trans hK2 hK3 (by simp) (fun y hy _ => hy), ⟨n, _, HO2.out, by omega, HH.out.drop HD.out HP.out, (HVP.out.kept hK3 (fun x hx => .inl (by rw [List.mem_singleton.1 hx]; exact hB))).drop HP.out⟩, false, _, Nd.zero, rfl, fun h => absurd rfl h, ob_zero, ok_zero, fun _ => rfl⟩
  · rcases h with rfl | rfl | rfl
    · have HK := Lib.hid hk; clear hk
      have hgy := hyo.ok.good1
      have HRs := Lib.hid hRs; clear hRs
      obtain ⟨w0, hw0⟩ : ∃ w0, w0 = (w.alloc (.cells #[.map (some B)] 61)).alloc (.cells #[.int .i64 3, .string key, .int .i64 y.k, .int .i64 y.i, .int .i64 y.g, .float .f64 y.r, .string y.s, .slice ka y.keys.length kc, .slice a y.kids.len cap] 45) := ⟨_, rfl⟩
      have hK0 : Kept [] w w0 := by rw [hw0]; exact ((Kept.refl [] w).alloc _).alloc _
      have hX1 : w0.heap[w.heap.size]? = some (.cells #[.map (some B)] 61 (0, 0)) := by rw [hw0, heap_lt (by simp)]; exact heap_at rfl
      have hX2 : w0.heap[w.heap.size + 1]? = some (.cells #[.int .i64 3, .string key, .int .i64 y.k, .int .i64 y.i, .int .i64 y.g, .float .f64 y.r, .string y.s, .slice ka y.keys.length kc, .slice a y.kids.len cap] 45 (0, 0)) := by rw [hw0]; exact heap_at (by simp)
      obtain ⟨c0, c1, c2, c3, c4, c5, c6, c7, c8⟩ := nine hX2
      have hcall := (ob_node y.k y.i y.g y.r y.s y.keys y.kids) N ka kc a cap w0 (hy.kept hK0 (ltk hN (by simp))) (Nat.le_trans hN hK0.size) hgy hyo.ok.good
      have HC := Lib.hid hcall; have HX1 := Lib.hid hX1; have HX2 := Lib.hid hX2; have HR := Lib.hid hr; have HD := Lib.hid hd; have HYO := Lib.hid hyo; have HKY := Lib.hid hkey; clear hcall hX1 hX2 hr hd hyo hgy hy
      have hz : key.size ≤ maxLen := by have := hkey.hi; unfold maxLen; omega
      clear hkey
      go_enter Tryz.func37, Tryz.ntmps37
      go_upto_region 1 with fail
      rw [← hw0]
      clear hw0
      go_wp2_with fail
      refine HC.out.mono ?_
      rintro e w1 ⟨hK1, vy, rfl, hvy⟩
      have hK2 : Kept [] w w1 := Kept.trans hK0 hK1 (by simp) (by simp)
      have hX1' := (hK1.block w.heap.size (lt_of_block HX1.out) (by simp)).trans HX1.out
      have hX2' := (hK1.block (w.heap.size + 1) (lt_of_block HX2.out) (by simp)).trans HX2.out
      have hm := one_cell hX1'
      clear c0 c1 c2 c3 c4 c5 c6 c7 c8
      obtain ⟨c0, c1, c2, c3, c4, c5, c6, c7, c8⟩ := nine hX2'
      have hlt1 := lt_of_block hX1'
      have hvy1 : ObN (FrR R H w1.heap.size) w1 y vy := Ob1.mono (fun b hb => by
        rcases hb with h | ⟨h1, h2⟩
        · omega
        · exact ⟨by have := hK0.size; omega, h2, fun hr => by have := HRs.out b hr; have := hK0.size; omega⟩) hvy
      obtain ⟨n, D, hown, hn, hh, hvp⟩ := HR.out.kept hK2
      have hks : KS D := fun s hs => HD.out.simp s ((hh s).1 hs)
      have hif := hvp.iface HD.out hh key
      have HVY := Lib.hid hvy1; have HO := Lib.hid hown; have HH := Lib.hid hh; have HVP := Lib.hid hvp; have HKS := Lib.hid hks; have HIF := Lib.hid hif; clear hX1' hX2' hvy hvy1 hown hh hvp hks hif
      obtain ⟨v', hv1, hv2⟩ := HVP.out key v HK.out
      have hhas := (HH.out key).2 HK.out.mem
      obtain ⟨j, _, hj⟩ := HK.out
      have HV1 := Lib.hid hv1; have HV2 := Lib.hid hv2; have HHAS := Lib.hid hhas; have HJ := Lib.hid hj; clear hv1 hv2 hhas hj
      go_wp2_with fail
      refine (find key hz B n D w1 HO.out HKS.out).mono ?_
      rintro e w2 ⟨hK3, v1, rfl, h1, _⟩
      obtain rfl : v1 = v' := by have := (h1 HHAS.out).symm.trans HV1.out; injection this
      rw [HHAS.out]
      clear h1
      go_wp2_with fail
      go_ret3
      exact ⟨(Kept.trans (Z := []) hK2 hK3 (by simp) (by simp)).mono (by simp), ⟨n, D, owns_kept HO.out hK3 (by simp), by omega, HH.out, HVP.out.kept hK3 (by simp)⟩, true, _, v, rfl, fun _ => rfl, obn_kept HV2.out hK3 (by simp), (HD.out.ok j v HJ.out).ok, fun _ => rfl⟩
    · have HK := Lib.hid hk; clear hk
      have hgy := hyo.ok.good1
      have HRs := Lib.hid hRs; clear hRs
      obtain ⟨w0, hw0⟩ : ∃ w0, w0 = (w.alloc (.cells #[.map (some B)] 61)).alloc (.cells #[.int .i64 4, .string key, .int .i64 y.k, .int .i64 y.i, .int .i64 y.g, .float .f64 y.r, .string y.s, .slice ka y.keys.length kc, .slice a y.kids.len cap] 45) := ⟨_, rfl⟩
      have hK0 : Kept [] w w0 := by rw [hw0]; exact ((Kept.refl [] w).alloc _).alloc _
      have hX1 : w0.heap[w.heap.size]? = some (.cells #[.map (some B)] 61 (0, 0)) := by rw [hw0, heap_lt (by simp)]; exact heap_at rfl
      have hX2 : w0.heap[w.heap.size + 1]? = some (.cells #[.int .i64 4, .string key, .int .i64 y.k, .int .i64 y.i, .int .i64 y.g, .float .f64 y.r, .string y.s, .slice ka y.keys.length kc, .slice a y.kids.len cap] 45 (0, 0)) := by rw [hw0]; exact heap_at (by simp)
      obtain ⟨c0, c1, c2, c3, c4, c5, c6, c7, c8⟩ := nine hX2
      have hcall := (ob_node y.k y.i y.g y.r y.s y.keys y.kids) N ka kc a cap w0 (hy.kept hK0 (ltk hN (by simp))) (Nat.le_trans hN hK0.size) hgy hyo.ok.good
      have HC := Lib.hid hcall; have HX1 := Lib.hid hX1; have HX2 := Lib.hid hX2; have HR := Lib.hid hr; have HD := Lib.hid hd; have HYO := Lib.hid hyo; have HKY := Lib.hid hkey; clear hcall hX1 hX2 hr hd hyo hgy hy
      have hz : key.size ≤ maxLen := by have := hkey.hi; unfold maxLen; omega
      clear hkey
      go_enter Tryz.func37, Tryz.ntmps37
      go_upto_region 1 with fail
      rw [← hw0]
      clear hw0
      go_wp2_with fail
      refine HC.out.mono ?_
      rintro e w1 ⟨hK1, vy, rfl, hvy⟩
      have hK2 : Kept [] w w1 := Kept.trans hK0 hK1 (by simp) (by simp)
      have hX1' := (hK1.block w.heap.size (lt_of_block HX1.out) (by simp)).trans HX1.out
      have hX2' := (hK1.block (w.heap.size + 1) (lt_of_block HX2.out) (by simp)).trans HX2.out
      have hm := one_cell hX1'
      clear c0 c1 c2 c3 c4 c5 c6 c7 c8
      obtain ⟨c0, c1, c2, c3, c4, c5, c6, c7, c8⟩ := nine hX2'
      have hlt1 := lt_of_block hX1'
      have hvy1 : ObN (FrR R H w1.heap.size) w1 y vy := Ob1.mono (fun b hb => by
        rcases hb with h | ⟨h1, h2⟩
        · omega
        · exact ⟨by have := hK0.size; omega, h2, fun hr => by have := HRs.out b hr; have := hK0.size; omega⟩) hvy
      obtain ⟨n, D, hown, hn, hh, hvp⟩ := HR.out.kept hK2
      have hks : KS D := fun s hs => HD.out.simp s ((hh s).1 hs)
      have hif := hvp.iface HD.out hh key
      have HVY := Lib.hid hvy1; have HO := Lib.hid hown; have HH := Lib.hid hh; have HVP := Lib.hid hvp; have HKS := Lib.hid hks; have HIF := Lib.hid hif; clear hX1' hX2' hvy hvy1 hown hh hvp hks hif
      have hhas := (HH.out key).2 HK.out.mem
      have HHAS := Lib.hid hhas; clear hhas
      go_wp2_with fail
      refine (hasw key hz B n D w1 HO.out HKS.out (fun v h1 h2 => by obtain ⟨t, u, h, _⟩ := HIF.out v h1 h2; exact ⟨t, u, h⟩)).mono ?_
      rintro e w2 ⟨rfl, hK3⟩
      rw [HHAS.out]
      go_wp2_with fail
      go_ret3
      exact ⟨(Kept.trans (Z := []) hK2 hK3 (by simp) (by simp)).mono (by simp), ⟨n, D, owns_kept HO.out hK3 (by simp), by omega, HH.out, HVP.out.kept hK3 (by simp)⟩, true, _, Nd.zero, rfl, fun _ => rfl, ob_zero, ok_zero, fun h => by omega⟩
    · have HK := Lib.hid hk; clear hk
      have hgy := hyo.ok.good1
      have HRs := Lib.hid hRs; clear hRs
      obtain ⟨w0, hw0⟩ : ∃ w0, w0 = (w.alloc (.cells #[.map (some B)] 61)).alloc (.cells #[.int .i64 5, .string key, .int .i64 y.k, .int .i64 y.i, .int .i64 y.g, .float .f64 y.r, .string y.s, .slice ka y.keys.length kc, .slice a y.kids.len cap] 45) := ⟨_, rfl⟩
      have hK0 : Kept [] w w0 := by rw [hw0]; exact ((Kept.refl [] w).alloc _).alloc _
      have hX1 : w0.heap[w.heap.size]? = some (.cells #[.map (some B)] 61 (0, 0)) := by rw [hw0, heap_lt (by simp)]; exact heap_at rfl
      have hX2 : w0.heap[w.heap.size + 1]? = some (.cells #[.int .i64 5, .string key, .int .i64 y.k, .int .i64 y.i, .int .i64 y.g, .float .f64 y.r, .string y.s, .slice ka y.keys.length kc, .slice a y.kids.len cap] 45 (0, 0)) := by rw [hw0]; exact heap_at (by simp)
      obtain ⟨c0, c1, c2, c3, c4, c5, c6, c7, c8⟩ := nine hX2
      have hcall := (ob_node y.k y.i y.g y.r y.s y.keys y.kids) N ka kc a cap w0 (hy.kept hK0 (ltk hN (by simp))) (Nat.le_trans hN hK0.size) hgy hyo.ok.good
      have HC := Lib.hid hcall; have HX1 := Lib.hid hX1; have HX2 := Lib.hid hX2; have HR := Lib.hid hr; have HD := Lib.hid hd; have HYO := Lib.hid hyo; have HKY := Lib.hid hkey; clear hcall hX1 hX2 hr hd hyo hgy hy
      have hz : key.size ≤ maxLen := by have := hkey.hi; unfold maxLen; omega
      clear hkey
      go_enter Tryz.func37, Tryz.ntmps37
      go_upto_region 1 with fail
      rw [← hw0]
      clear hw0
      go_wp2_with fail
      refine HC.out.mono ?_
      rintro e w1 ⟨hK1, vy, rfl, hvy⟩
      have hK2 : Kept [] w w1 := Kept.trans hK0 hK1 (by simp) (by simp)
      have hX1' := (hK1.block w.heap.size (lt_of_block HX1.out) (by simp)).trans HX1.out
      have hX2' := (hK1.block (w.heap.size + 1) (lt_of_block HX2.out) (by simp)).trans HX2.out
      have hm := one_cell hX1'
      clear c0 c1 c2 c3 c4 c5 c6 c7 c8
      obtain ⟨c0, c1, c2, c3, c4, c5, c6, c7, c8⟩ := nine hX2'
      have hlt1 := lt_of_block hX1'
      have hvy1 : ObN (FrR R H w1.heap.size) w1 y vy := Ob1.mono (fun b hb => by
        rcases hb with h | ⟨h1, h2⟩
        · omega
        · exact ⟨by have := hK0.size; omega, h2, fun hr => by have := HRs.out b hr; have := hK0.size; omega⟩) hvy
      obtain ⟨n, D, hown, hn, hh, hvp⟩ := HR.out.kept hK2
      have hks : KS D := fun s hs => HD.out.simp s ((hh s).1 hs)
      have hif := hvp.iface HD.out hh key
      have HVY := Lib.hid hvy1; have HO := Lib.hid hown; have HH := Lib.hid hh; have HVP := Lib.hid hvp; have HKS := Lib.hid hks; have HIF := Lib.hid hif; clear hX1' hX2' hvy hvy1 hown hh hvp hks hif
      obtain ⟨v', hv1, hv2⟩ := HVP.out key v HK.out
      have hhas := (HH.out key).2 HK.out.mem
      obtain ⟨j, _, hj⟩ := HK.out
      have HV1 := Lib.hid hv1; have HV2 := Lib.hid hv2; have HHAS := Lib.hid hhas; have HJ := Lib.hid hj; clear hv1 hv2 hhas hj
      go_wp2_with fail
      refine (entryw key hz B n D w1 HO.out HKS.out (fun v h1 h2 => by obtain ⟨t, u, h, _⟩ := HIF.out v h1 h2; exact ⟨t, u, h⟩)).mono ?_
      rintro e w2 ⟨hK3, v1, rfl, h1, _⟩
      obtain rfl : v1 = v' := by have := (h1 HHAS.out).symm.trans HV1.out; injection this
      rw [HHAS.out]
      clear h1
      go_wp2_with fail
      go_ret3
      exact ⟨(Kept.trans (Z := []) hK2 hK3 (by simp) (by simp)).mono (by simp), ⟨n, D, owns_kept HO.out hK3 (by simp), by omega, HH.out, HVP.out.kept hK3 (by simp)⟩, true, _, v, rfl, fun _ => rfl, obn_kept HV2.out hK3 (by simp), (HD.out.ok j v HJ.out).ok, fun _ => rfl⟩
  · rcases h with rfl | rfl | rfl
    · have HK := Lib.hid hk; clear hk
      have hgy := hyo.ok.good1
      have HRs := Lib.hid hRs; clear hRs
      obtain ⟨w0, hw0⟩ : ∃ w0, w0 = (w.alloc (.cells #[.map (some B)] 61)).alloc (.cells #[.int .i64 3, .string key, .int .i64 y.k, .int .i64 y.i, .int .i64 y.g, .float .f64 y.r, .string y.s, .slice ka y.keys.length kc, .slice a y.kids.len cap] 45) := ⟨_, rfl⟩
      have hK0 : Kept [] w w0 := by rw [hw0]; exact ((Kept.refl [] w).alloc _).alloc _
      have hX1 : w0.heap[w.heap.size]? = some (.cells #[.map (some B)] 61 (0, 0)) := by rw [hw0, heap_lt (by simp)]; exact heap_at rfl
      have hX2 : w0.heap[w.heap.size + 1]? = some (.cells #[.int .i64 3, .string key, .int .i64 y.k, .int .i64 y.i, .int .i64 y.g, .float .f64 y.r, .string y.s, .slice ka y.keys.length kc, .slice a y.kids.len cap] 45 (0, 0)) := by rw [hw0]; exact heap_at (by simp)
      obtain ⟨c0, c1, c2, c3, c4, c5, c6, c7, c8⟩ := nine hX2
      have hcall := (ob_node y.k y.i y.g y.r y.s y.keys y.kids) N ka kc a cap w0 (hy.kept hK0 (ltk hN (by simp))) (Nat.le_trans hN hK0.size) hgy hyo.ok.good
      have HC := Lib.hid hcall; have HX1 := Lib.hid hX1; have HX2 := Lib.hid hX2; have HR := Lib.hid hr; have HD := Lib.hid hd; have HYO := Lib.hid hyo; have HKY := Lib.hid hkey; clear hcall hX1 hX2 hr hd hyo hgy hy
      have hz : key.size ≤ maxLen := by have := hkey.hi; unfold maxLen; omega
      clear hkey
      go_enter Tryz.func37, Tryz.ntmps37
      go_upto_region 1 with fail
      rw [← hw0]
      clear hw0
      go_wp2_with fail
      refine HC.out.mono ?_
      rintro e w1 ⟨hK1, vy, rfl, hvy⟩
      have hK2 : Kept [] w w1 := Kept.trans hK0 hK1 (by simp) (by simp)
      have hX1' := (hK1.block w.heap.size (lt_of_block HX1.out) (by simp)).trans HX1.out
      have hX2' := (hK1.block (w.heap.size + 1) (lt_of_block HX2.out) (by simp)).trans HX2.out
      have hm := one_cell hX1'
      clear c0 c1 c2 c3 c4 c5 c6 c7 c8
      obtain ⟨c0, c1, c2, c3, c4, c5, c6, c7, c8⟩ := nine hX2'
      have hlt1 := lt_of_block hX1'
      have hvy1 : ObN (FrR R H w1.heap.size) w1 y vy := Ob1.mono (fun b hb => by
        rcases hb with h | ⟨h1, h2⟩
        · omega
        · exact ⟨by have := hK0.size; omega, h2, fun hr => by have := HRs.out b hr; have := hK0.size; omega⟩) hvy
      obtain ⟨n, D, hown, hn, hh, hvp⟩ := HR.out.kept hK2
      have hks : KS D := fun s hs => HD.out.simp s ((hh s).1 hs)
      have hif := hvp.iface HD.out hh key
      have HVY := Lib.hid hvy1; have HO := Lib.hid hown; have HH := Lib.hid hh; have HVP := Lib.hid hvp; have HKS := Lib.hid hks; have HIF := Lib.hid hif; clear hX1' hX2' hvy hvy1 hown hh hvp hks hif
      have hhas := HH.out.no HK.out
      have HHAS := Lib.hid hhas; clear hhas
      go_wp2_with fail
      refine (find key hz B n D w1 HO.out HKS.out).mono ?_
      rintro e w2 ⟨hK3, v1, rfl, _, h2⟩
      obtain rfl := h2 HHAS.out
      rw [HHAS.out]
      clear h2
      go_wp2_with fail
      go_ret3
      exact ⟨(Kept.trans (Z := []) hK2 hK3 (by simp) (by simp)).mono (by simp), ⟨n, D, owns_kept HO.out hK3 (by simp), by omega, HH.out, HVP.out.kept hK3 (by simp)⟩, false, _, Nd.zero, rfl, fun _ => rfl, ob_zero, ok_zero, fun _ => rfl⟩
    · have HK := Lib.hid hk; clear hk
      have hgy := hyo.ok.good1
      have HRs := Lib.hid hRs; clear hRs
      obtain ⟨w0, hw0⟩ : ∃ w0, w0 = (w.alloc (.cells #[.map (some B)] 61)).alloc (.cells #[.int .i64 4, .string key, .int .i64 y.k, .int .i64 y.i, .int .i64 y.g, .float .f64 y.r, .string y.s, .slice ka y.keys.length kc, .slice a y.kids.len cap] 45) := ⟨_, rfl⟩
      have hK0 : Kept [] w w0 := by rw [hw0]; exact ((Kept.refl [] w).alloc _).alloc _
      have hX1 : w0.heap[w.heap.size]? = some (.cells #[.map (some B)] 61 (0, 0)) := by rw [hw0, heap_lt (by simp)]; exact heap_at rfl
      have hX2 : w0.heap[w.heap.size + 1]? = some (.cells #[.int .i64 4, .string key, .int .i64 y.k, .int .i64 y.i, .int .i64 y.g, .float .f64 y.r, .string y.s, .slice ka y.keys.length kc, .slice a y.kids.len cap] 45 (0, 0)) := by rw [hw0]; exact heap_at (by simp)
      obtain ⟨c0, c1, c2, c3, c4, c5, c6, c7, c8⟩ := nine hX2
      have hcall := (ob_node y.k y.i y.g y.r y.s y.keys y.kids) N ka kc a cap w0 (hy.kept hK0 (ltk hN (by simp))) (Nat.le_trans hN hK0.size) hgy hyo.ok.good
      have HC := Lib.hid hcall; have HX1 := Lib.hid hX1; have HX2 := Lib.hid hX2; have HR := Lib.hid hr; have HD := Lib.hid hd; have HYO := Lib.hid hyo; have HKY := Lib.hid hkey; clear hcall hX1 hX2 hr hd hyo hgy hy
      have hz : key.size ≤ maxLen := by have := hkey.hi; unfold maxLen; omega
      clear hkey
      go_enter Tryz.func37, Tryz.ntmps37
      go_upto_region 1 with fail
      rw [← hw0]
      clear hw0
      go_wp2_with fail
      refine HC.out.mono ?_
      rintro e w1 ⟨hK1, vy, rfl, hvy⟩
      have hK2 : Kept [] w w1 := Kept.trans hK0 hK1 (by simp) (by simp)
      have hX1' := (hK1.block w.heap.size (lt_of_block HX1.out) (by simp)).trans HX1.out
      have hX2' := (hK1.block (w.heap.size + 1) (lt_of_block HX2.out) (by simp)).trans HX2.out
      have hm := one_cell hX1'
      clear c0 c1 c2 c3 c4 c5 c6 c7 c8
      obtain ⟨c0, c1, c2, c3, c4, c5, c6, c7, c8⟩ := nine hX2'
      have hlt1 := lt_of_block hX1'
      have hvy1 : ObN (FrR R H w1.heap.size) w1 y vy := Ob1.mono (fun b hb => by
        rcases hb with h | ⟨h1, h2⟩
        · omega
        · exact ⟨by have := hK0.size; omega, h2, fun hr => by have := HRs.out b hr; have := hK0.size; omega⟩) hvy
      obtain ⟨n, D, hown, hn, hh, hvp⟩ := HR.out.kept hK2
      have hks : KS D := fun s hs => HD.out.simp s ((hh s).1 hs)
      have hif := hvp.iface HD.out hh key
      have HVY := Lib.hid hvy1; have HO := Lib.hid hown; have HH := Lib.hid hh; have HVP := Lib.hid hvp; have HKS := Lib.hid hks; have HIF := Lib.hid hif; clear hX1' hX2' hvy hvy1 hown hh hvp hks hif
      have hhas := HH.out.no HK.out
      have HHAS := Lib.hid hhas; clear hhas
      go_wp2_with fail
      refine (hasw key hz B n D w1 HO.out HKS.out (fun v h1 h2 => by obtain ⟨t, u, h, _⟩ := HIF.out v h1 h2; exact ⟨t, u, h⟩)).mono ?_
      rintro e w2 ⟨rfl, hK3⟩
      rw [HHAS.out]
      go_wp2_with fail
      go_ret3
      exact ⟨(Kept.trans (Z := []) hK2 hK3 (by simp) (by simp)).mono (by simp), ⟨n, D, owns_kept HO.out hK3 (by simp), by omega, HH.out, HVP.out.kept hK3 (by simp)⟩, false, _, Nd.zero, rfl, fun _ => rfl, ob_zero, ok_zero, fun _ => rfl⟩
    · have HK := Lib.hid hk; clear hk
      have hgy := hyo.ok.good1
      have HRs := Lib.hid hRs; clear hRs
      obtain ⟨w0, hw0⟩ : ∃ w0, w0 = (w.alloc (.cells #[.map (some B)] 61)).alloc (.cells #[.int .i64 5, .string key, .int .i64 y.k, .int .i64 y.i, .int .i64 y.g, .float .f64 y.r, .string y.s, .slice ka y.keys.length kc, .slice a y.kids.len cap] 45) := ⟨_, rfl⟩
      have hK0 : Kept [] w w0 := by rw [hw0]; exact ((Kept.refl [] w).alloc _).alloc _
      have hX1 : w0.heap[w.heap.size]? = some (.cells #[.map (some B)] 61 (0, 0)) := by rw [hw0, heap_lt (by simp)]; exact heap_at rfl
      have hX2 : w0.heap[w.heap.size + 1]? = some (.cells #[.int .i64 5, .string key, .int .i64 y.k, .int .i64 y.i, .int .i64 y.g, .float .f64 y.r, .string y.s, .slice ka y.keys.length kc, .slice a y.kids.len cap] 45 (0, 0)) := by rw [hw0]; exact heap_at (by simp)
      obtain ⟨c0, c1, c2, c3, c4, c5, c6, c7, c8⟩ := nine hX2
      have hcall := (ob_node y.k y.i y.g y.r y.s y.keys y.kids) N ka kc a cap w0 (hy.kept hK0 (ltk hN (by simp))) (Nat.le_trans hN hK0.size) hgy hyo.ok.good
      have HC := Lib.hid hcall; have HX1 := Lib.hid hX1; have HX2 := Lib.hid hX2; have HR := Lib.hid hr; have HD := Lib.hid hd; have HYO := Lib.hid hyo; have HKY := Lib.hid hkey; clear hcall hX1 hX2 hr hd hyo hgy hy
      have hz : key.size ≤ maxLen := by have := hkey.hi; unfold maxLen; omega
      clear hkey
      go_enter Tryz.func37, Tryz.ntmps37
      go_upto_region 1 with fail
      rw [← hw0]
      clear hw0
      go_wp2_with fail
      refine HC.out.mono ?_
      rintro e w1 ⟨hK1, vy, rfl, hvy⟩
      have hK2 : Kept [] w w1 := Kept.trans hK0 hK1 (by simp) (by simp)
      have hX1' := (hK1.block w.heap.size (lt_of_block HX1.out) (by simp)).trans HX1.out
      have hX2' := (hK1.block (w.heap.size + 1) (lt_of_block HX2.out) (by simp)).trans HX2.out
      have hm := one_cell hX1'
      clear c0 c1 c2 c3 c4 c5 c6 c7 c8
      obtain ⟨c0, c1, c2, c3, c4, c5, c6, c7, c8⟩ := nine hX2'
      have hlt1 := lt_of_block hX1'
      have hvy1 : ObN (FrR R H w1.heap.size) w1 y vy := Ob1.mono (fun b hb => by
        rcases hb with h | ⟨h1, h2⟩
        · omega
        · exact ⟨by have := hK0.size; omega, h2, fun hr => by have := HRs.out b hr; have := hK0.size; omega⟩) hvy
      obtain ⟨n, D, hown, hn, hh, hvp⟩ := HR.out.kept hK2
      have hks : KS D := fun s hs => HD.out.simp s ((hh s).1 hs)
      have hif := hvp.iface HD.out hh key
      have HVY := Lib.hid hvy1; have HO := Lib.hid hown; have HH := Lib.hid hh; have HVP := Lib.hid hvp; have HKS := Lib.hid hks; have HIF := Lib.hid hif; clear hX1' hX2' hvy hvy1 hown hh hvp hks hif
      have hhas := HH.out.no HK.out
      have HHAS := Lib.hid hhas; clear hhas
      go_wp2_with fail
      refine (entryw key hz B n D w1 HO.out HKS.out (fun v h1 h2 => by obtain ⟨t, u, h, _⟩ := HIF.out v h1 h2; exact ⟨t, u, h⟩)).mono ?_
      rintro e w2 ⟨hK3, v1, rfl, _, h2⟩
      obtain rfl := h2 HHAS.out
      rw [HHAS.out]
      clear h2
      go_wp2_with fail
      go_ret3
      exact ⟨(Kept.trans (Z := []) hK2 hK3 (by simp) (by simp)).mono (by simp), ⟨n, D, owns_kept HO.out hK3 (by simp), by omega, HH.out, HVP.out.kept hK3 (by simp)⟩, false, _, Nd.zero, rfl, fun _ => rfl, ob_zero, ok_zero, fun _ => rfl⟩
  · have HK := Lib.hid hk; clear hk
    have hgy := hyo.ok.good1
    have HRs := Lib.hid hRs; clear hRs
    obtain ⟨w0, hw0⟩ : ∃ w0, w0 = (w.alloc (.cells #[.map (some B)] 61)).alloc (.cells #[.int .i64 6, .string key, .int .i64 y.k, .int .i64 y.i, .int .i64 y.g, .float .f64 y.r, .string y.s, .slice ka y.keys.length kc, .slice a y.kids.len cap] 45) := ⟨_, rfl⟩
    have hK0 : Kept [] w w0 := by rw [hw0]; exact ((Kept.refl [] w).alloc _).alloc _
    have hX1 : w0.heap[w.heap.size]? = some (.cells #[.map (some B)] 61 (0, 0)) := by rw [hw0, heap_lt (by simp)]; exact heap_at rfl
    have hX2 : w0.heap[w.heap.size + 1]? = some (.cells #[.int .i64 6, .string key, .int .i64 y.k, .int .i64 y.i, .int .i64 y.g, .float .f64 y.r, .string y.s, .slice ka y.keys.length kc, .slice a y.kids.len cap] 45 (0, 0)) := by rw [hw0]; exact heap_at (by simp)
    obtain ⟨c0, c1, c2, c3, c4, c5, c6, c7, c8⟩ := nine hX2
    have hcall := (ob_node y.k y.i y.g y.r y.s y.keys y.kids) N ka kc a cap w0 (hy.kept hK0 (ltk hN (by simp))) (Nat.le_trans hN hK0.size) hgy hyo.ok.good
    have HC := Lib.hid hcall; have HX1 := Lib.hid hX1; have HX2 := Lib.hid hX2; have HR := Lib.hid hr; have HD := Lib.hid hd; have HYO := Lib.hid hyo; have HKY := Lib.hid hkey; clear hcall hX1 hX2 hr hd hyo hgy hy
    have hz : key.size ≤ maxLen := by have := hkey.hi; unfold maxLen; omega
    clear hkey
    go_enter Tryz.func37, Tryz.ntmps37
    go_upto_region 1 with fail
    rw [← hw0]
    clear hw0
    go_wp2_with fail
    refine HC.out.mono ?_
    rintro e w1 ⟨hK1, vy, rfl, hvy⟩
    have hK2 : Kept [] w w1 := Kept.trans hK0 hK1 (by simp) (by simp)
    have hX1' := (hK1.block w.heap.size (lt_of_block HX1.out) (by simp)).trans HX1.out
    have hX2' := (hK1.block (w.heap.size + 1) (lt_of_block HX2.out) (by simp)).trans HX2.out
    have hm := one_cell hX1'
    clear c0 c1 c2 c3 c4 c5 c6 c7 c8
    obtain ⟨c0, c1, c2, c3, c4, c5, c6, c7, c8⟩ := nine hX2'
    have hlt1 := lt_of_block hX1'
    have hvy1 : ObN (FrR R H w1.heap.size) w1 y vy := Ob1.mono (fun b hb => by
      rcases hb with h | ⟨h1, h2⟩
      · omega
      · exact ⟨by have := hK0.size; omega, h2, fun hr => by have := HRs.out b hr; have := hK0.size; omega⟩) hvy
    obtain ⟨n, D, hown, hn, hh, hvp⟩ := HR.out.kept hK2
    have hks : KS D := fun s hs => HD.out.simp s ((hh s).1 hs)
    have hif := hvp.iface HD.out hh key
    have HVY := Lib.hid hvy1; have HO := Lib.hid hown; have HH := Lib.hid hh; have HVP := Lib.hid hvp; have HKS := Lib.hid hks; have HIF := Lib.hid hif; clear hX1' hX2' hvy hvy1 hown hh hvp hks hif
    go_wp2_with fail
    refine (incrby key hz y.i w.heap.size B n (by omega) D w1 hm HO.out HKS.out HIF.out).mono ?_
    rintro e w2 ⟨hK3, ⟨⟨a9, rfl⟩, hown2, _⟩ | ⟨z, _, _, hz1, hz2⟩⟩
    case' inr =>
      exfalso
      obtain ⟨nd, hnd⟩ := HD.out.at ((HH.out key).1 hz1)
      obtain ⟨v', h1, h2⟩ := HVP.out key nd hnd
      obtain rfl : v' = .iface 95 (.int .i64 z) := by have := h1.symm.trans hz2; injection this
      exact HK.out nd hnd (ob95 h2).1
    have HO2 := Lib.hid hown2; clear hown2
    go_wp2_with fail
    go_ret3
    exact ⟨Kept.trans hK2 hK3 (by simp) (fun y hy _ => hy), ⟨n, D, HO2.out, by omega, HH.out, HVP.out.kept hK3 (fun x hx => .inl (by rw [List.mem_singleton.1 hx]; exact hB))⟩, false, _, Nd.zero, rfl, fun _ => rfl, ob_zero, ok_zero, fun h => by omega⟩
  · rename_i v0
    have HK := Lib.hid hk; have HP := Lib.hid hp; have H2 := Lib.hid h2; clear hk hp h2
    have hgy := hyo.ok.good1
    have HRs := Lib.hid hRs; clear hRs
    obtain ⟨w0, hw0⟩ : ∃ w0, w0 = (w.alloc (.cells #[.map (some B)] 61)).alloc (.cells #[.int .i64 6, .string key, .int .i64 y.k, .int .i64 y.i, .int .i64 y.g, .float .f64 y.r, .string y.s, .slice ka y.keys.length kc, .slice a y.kids.len cap] 45) := ⟨_, rfl⟩
    have hK0 : Kept [] w w0 := by rw [hw0]; exact ((Kept.refl [] w).alloc _).alloc _
    have hX1 : w0.heap[w.heap.size]? = some (.cells #[.map (some B)] 61 (0, 0)) := by rw [hw0, heap_lt (by simp)]; exact heap_at rfl
    have hX2 : w0.heap[w.heap.size + 1]? = some (.cells #[.int .i64 6, .string key, .int .i64 y.k, .int .i64 y.i, .int .i64 y.g, .float .f64 y.r, .string y.s, .slice ka y.keys.length kc, .slice a y.kids.len cap] 45 (0, 0)) := by rw [hw0]; exact heap_at (by simp)
    obtain ⟨c0, c1, c2, c3, c4, c5, c6, c7, c8⟩ := nine hX2
    have hcall := (ob_node y.k y.i y.g y.r y.s y.keys y.kids) N ka kc a cap w0 (hy.kept hK0 (ltk hN (by simp))) (Nat.le_trans hN hK0.size) hgy hyo.ok.good
    have HC := Lib.hid hcall; have HX1 := Lib.hid hX1; have HX2 := Lib.hid hX2; have HR := Lib.hid hr; have HD := Lib.hid hd; have HYO := Lib.hid hyo; have HKY := Lib.hid hkey; clear hcall hX1 hX2 hr hd hyo hgy hy
    have hz : key.size ≤ maxLen := by have := hkey.hi; unfold maxLen; omega
    clear hkey
    go_enter Tryz.func37, Tryz.ntmps37
    go_upto_region 1 with fail
    rw [← hw0]
    clear hw0
    go_wp2_with fail
    refine HC.out.mono ?_
    rintro e w1 ⟨hK1, vy, rfl, hvy⟩
    have hK2 : Kept [] w w1 := Kept.trans hK0 hK1 (by simp) (by simp)
    have hX1' := (hK1.block w.heap.size (lt_of_block HX1.out) (by simp)).trans HX1.out
    have hX2' := (hK1.block (w.heap.size + 1) (lt_of_block HX2.out) (by simp)).trans HX2.out
    have hm := one_cell hX1'
    clear c0 c1 c2 c3 c4 c5 c6 c7 c8
    obtain ⟨c0, c1, c2, c3, c4, c5, c6, c7, c8⟩ := nine hX2'
    have hlt1 := lt_of_block hX1'
    have hvy1 : ObN (FrR R H w1.heap.size) w1 y vy := Ob1.mono (fun b hb => by
      rcases hb with h | ⟨h1, h2⟩
      · omega
      · exact ⟨by have := hK0.size; omega, h2, fun hr => by have := HRs.out b hr; have := hK0.size; omega⟩) hvy
    obtain ⟨n, D, hown, hn, hh, hvp⟩ := HR.out.kept hK2
    have hks : KS D := fun s hs => HD.out.simp s ((hh s).1 hs)
    have hif := hvp.iface HD.out hh key
    have HVY := Lib.hid hvy1; have HO := Lib.hid hown; have HH := Lib.hid hh; have HVP := Lib.hid hvp; have HKS := Lib.hid hks; have HIF := Lib.hid hif; clear hX1' hX2' hvy hvy1 hown hh hvp hks hif
    obtain ⟨v', hv1, hv2⟩ := HVP.out key v0 HK.out
    have hve := ob2 hv2 H2.out
    subst hve
    have HV1 := Lib.hid hv1; clear hv1 hv2
    go_wp2_with fail
    refine (incrby key hz y.i w.heap.size B n (by omega) D w1 hm HO.out HKS.out HIF.out).mono ?_
    rintro e w2 ⟨hK3, ⟨_, _, hno⟩ | ⟨z, rfl, hown2, hz1, hz2⟩⟩
    case' inl => exact absurd HV1.out (hno ((HH.out key).2 HK.out.mem) _)
    obtain rfl : z = v0.i := by have := hz2.symm.trans HV1.out; simpa using this
    have HO2 := Lib.hid hown2; clear hown2 hz1 hz2
    go_wp2_with fail
    go_ret3
    have him := HO.out.isMap
    exact ⟨Kept.trans hK2 hK3 (by simp) (fun y hy _ => hy), ⟨n + 1, _, HO2.out, by omega, HH.out.put him HD.out HP.out _, (HVP.out.kept hK3 (fun x hx => .inl (by rw [List.mem_singleton.1 hx]; exact hB))).put him HP.out (.inl (.inr (.inr (.inr (.inl ⟨rfl, rfl⟩)))))⟩, true, _, Nd.zero, rfl, fun _ => rfl, ob_zero, ok_zero, fun h => by omega⟩
end Go.Proofs.YtfkecmlmnhbmoaaGreatDoor
