import Derived.Test.YtfkecmlmnhbmoaaGreatDoorDs28
import Derived.Test.YtfkecmlmnhbmoaaGreatDoorDs29
namespace Go.Proofs.YtfkecmlmnhbmoaaGreatDoor
open Go.RowKit Go.Maps
/-- Where a key stands: its first place, or -1. -/
def PlaceOf (keys : List ByteArray) (key : ByteArray) (p : Int) : Prop := (p = -1 ∧ key ∉ keys) ∨ ∃ j : Nat, p = j ∧ keys[j]? = some key ∧ ∀ i, i < j → keys[i]? ≠ some key
def DfL (w0 : World) (keys : List ByteArray) (key : ByteArray) (v : Value) (wr : World) : Prop := ∃ j : Nat, j ≤ keys.length ∧ v = .int .i64 j ∧ (∀ i, i < j → keys[i]? ≠ some key) ∧ w0 = wr
set_option maxRecDepth 100000 in
set_option maxHeartbeats 3000000 in
theorem dictfind (key : ByteArray) (k i g : Int) (r : Nat) (s : ByteArray) (keys : List ByteArray) (kids : F) (N : Bd) (ka : Option Addr) (kc : Nat) (a : Option Addr) (cap : Nat) (w : World) (hn : Node (LtB N) w k i g r s keys kids ka kc a cap) (hN : N.n ≤ w.heap.size) :
    Calls Tryz.prog 33 #[.agg #[.int .i64 k, .int .i64 i, .int .i64 g, .float .f64 r, .string s, .slice ka keys.length kc, .slice a kids.len cap], .string key] w (fun e w' => Kept [] w w' ∧ ∃ p : Int, e = .returned (.int .i64 p) ∧ PlaceOf keys key p) := by
  obtain ⟨⟨⟨k1, k2⟩, ⟨i1, i2⟩, ⟨g1, g2⟩, r1, s1⟩, hkeys, hkids⟩ := hn
  have hk1 : keys.length ≤ 140737488351232 := by have := hkeys.1; have := hkeys.2.1; omega
  obtain ⟨w0, hw0⟩ : ∃ w0, w0 = w.alloc (.cells #[.int .i64 k, .int .i64 i, .int .i64 g, .float .f64 r, .string s, .slice ka keys.length kc, .slice a kids.len cap] 26) := ⟨_, rfl⟩
  have hK0 : Kept [] w w0 := by rw [hw0]; exact (Kept.refl [] w).alloc _
  have hX : w0.heap[w.heap.size]? = some (.cells #[.int .i64 k, .int .i64 i, .int .i64 g, .float .f64 r, .string s, .slice ka keys.length kc, .slice a kids.len cap] 26 (0, 0)) := by rw [hw0]; exact heap_at rfl
  obtain ⟨⟨c0, c1, c2, c3, c4, c5, c6⟩, _⟩ := seven hX
  have hkeys0 := hkeys.kept hK0 (ltkB hN (by simp))
  have HKE := Lib.hid hkeys0; clear hX hkeys hkids hkeys0
  go_enter Tryz.func33, Tryz.ntmps33
  go_upto_region 1 with fail
  rw [← hw0]
  clear hw0
  go_wp2_with fail
  clear c0 c1 c2 c3 c4 c5 c6
  go_loopw [5, 6, 10] (fun _ _ v wr => DfL w0 keys key v wr) (fun _ _ v _ => keys.length - (intOf v).toNat)
  case atStart => exact ⟨0, by omega, rfl, by omega, rfl⟩
  case round =>
    obtain ⟨j, hj, rfl, hs, rfl⟩ := hrel
    have HS := Lib.hid hs; clear hs
    by_cases hlt : j < keys.length
    · obtain ⟨b, o, rfl, hbN, hc, hsz⟩ := HKE.out.2.2 j hlt
      by_cases hkey : keys[j] = key
      · have zk := beq_of hkey
        have hat : keys[j]? = some key := by rw [List.getElem?_eq_getElem hlt, hkey]
        have HA := Lib.hid hat; clear hkey hat
        go_wp2_with fail
        go_ret
        exact ⟨hK0, j, rfl, .inr ⟨j, rfl, HA.out, HS.out⟩⟩
      · have zk := beq_not hkey
        have hat : keys[j]? ≠ some key := by rw [List.getElem?_eq_getElem hlt]; exact fun h => hkey (Option.some.inj h)
        have HA := Lib.hid hat; clear hkey hat
        go_wp2_with fail
        exact ⟨⟨j + 1, by omega, by go_num, fun x hx => by
          by_cases e : x = j
          · subst e; exact HA.out
          · exact HS.out x (by omega), rfl⟩, by simp [intOf]; omega⟩
    · have hno : key ∉ keys := fun hm => by
        obtain ⟨n, hn, h⟩ := List.getElem_of_mem hm
        exact HS.out n (by omega) (by rw [List.getElem?_eq_getElem hn, h])
      have HNO := Lib.hid hno; clear hno
      go_wp2_with fail
      go_ret
      exact ⟨hK0, -1, rfl, .inl ⟨rfl, HNO.out⟩⟩
end Go.Proofs.YtfkecmlmnhbmoaaGreatDoor
namespace Go.Proofs.YtfkecmlmnhbmoaaGreatDoor
open Go.RowKit Go.Maps
set_option maxHeartbeats 400000 in
theorem integer (n : Int) (w : World) : Calls Tryz.prog 36 #[.int .i64 n] w (fun e w' => Kept [] w w' ∧ e = .returned (.agg #[.int .i64 2, .int .i64 n, .int .i64 0, .float .f64 0, .string ⟨#[]⟩, .slice none 0 0, .slice none 0 0])) := by
  obtain ⟨w0, hw0⟩ : ∃ w0, w0 = w.alloc (.cells #[.int .i64 2, .int .i64 n, .int .i64 0, .float .f64 0, .string ⟨#[]⟩, .slice none 0 0, .slice none 0 0] 26) := ⟨_, rfl⟩
  have hK0 : Kept [] w w0 := by rw [hw0]; exact (Kept.refl [] w).alloc _
  have hX : w0.heap[w.heap.size]? = some (.cells #[.int .i64 2, .int .i64 n, .int .i64 0, .float .f64 0, .string ⟨#[]⟩, .slice none 0 0, .slice none 0 0] 26 (0, 0)) := by rw [hw0]; exact heap_at rfl
  obtain ⟨⟨e0, e1, e2, e3, e4, e5, e6⟩, _⟩ := seven hX
  go_enter Tryz.func36, Tryz.ntmps36
  go_wp2_with fail
  rw [← hw0]
  refine bodyPost_ret (v := .agg #[.int .i64 2, .int .i64 n, .int .i64 0, .float .f64 0, .string ⟨#[]⟩, .slice none 0 0, .slice none 0 0]) (by simp [results, Tryz.results36, go_sem, e0, e1, e2, e3, e4, e5, e6]) rfl ?_
  exact ⟨hK0, rfl⟩
end Go.Proofs.YtfkecmlmnhbmoaaGreatDoor
namespace Go.Proofs.YtfkecmlmnhbmoaaGreatDoor
open Go.RowKit Go.Maps
/-- Two reals are equal. -/
def feq (a b : Nat) : Prop := FloatKind.f64.format.order a b = some .eq
theorem datum_symm (a b : Ieee.Datum) (h : a.order b = some .eq) : b.order a = some .eq := by
  cases a with
  | nan => simp [Ieee.Datum.order] at h
  | infinity s =>
    cases b with
    | nan => simp [Ieee.Datum.order] at h
    | infinity t => revert h; cases s <;> cases t <;> simp [Ieee.Datum.order] <;> decide
    | number t n j => revert h; cases s <;> simp [Ieee.Datum.order]
  | number s m i =>
    cases b with
    | nan => simp [Ieee.Datum.order] at h
    | infinity t => revert h; cases t <;> simp [Ieee.Datum.order]
    | number t n j =>
      simp only [Ieee.Datum.order, Option.some.injEq] at h ⊢
      rw [Int.min_comm j i, Std.LawfulEqCmp.compare_eq_iff_eq] at *
      exact h.symm
theorem datum_refl (a : Ieee.Datum) (h : ∀ s t, a ≠ .nan s t) : a.order a = some .eq := by
  cases a with
  | nan s t => exact absurd rfl (h s t)
  | infinity s => cases s <;> simp [Ieee.Datum.order]
  | number s m i => simp [Ieee.Datum.order]
theorem feq_symm {a b : Nat} (h : feq a b) : feq b a := datum_symm _ _ h
theorem feq_refl {a : Nat} (h : ¬ isNan a) : feq a a := datum_refl _ fun s t e => h ⟨s, t, e⟩
theorem fne_feq {r : Nat} (h : fne r = false) : feq r 0 := by
  unfold fne at h
  exact eq_of_beq (by simpa [bne] using h)
theorem feq_not_nan {a b : Nat} (h : feq a b) : ¬ isNan a := fun hn => by
  have := nan_order hn b
  unfold feq at h
  rw [show FloatKind.f64.format = Ieee.double from rfl, this] at h
  cases h
theorem Good1.real {k i g : Int} {r : Nat} {s : ByteArray} {keys : List ByteArray} {kids : F} (h : Good1 k i g r s keys kids) : feq r r := by
  rcases h.only.r with h1 | h1
  · exact feq_refl (feq_not_nan (fne_feq h1))
  · exact feq_refl (h.nan h1)
/-- The same objects, reals by their values. -/
def SameF : F → F → Prop
  | .nil, .nil => True
  | .cons k i g r s keys kids rest, .cons k' i' g' r' s' keys' kids' rest' => (k = k' ∧ i = i' ∧ g = g' ∧ feq r r' ∧ s = s' ∧ keys = keys') ∧ SameF kids kids' ∧ SameF rest rest'
  | _, _ => False
theorem SameF.len : ∀ {f f' : F}, SameF f f' → f.len = f'.len
  | .nil, .nil, _ => rfl
  | .cons _ _ _ _ _ _ _ _, .cons _ _ _ _ _ _ _ _, ⟨_, _, c⟩ => by simp [F.len, SameF.len c]
theorem SameF.snoc {k i g : Int} {r r' : Nat} {s : ByteArray} {keys : List ByteArray} {kids kids' : F} (h1 : feq r r') (h2 : SameF kids kids') : ∀ {f f' : F}, SameF f f' → SameF (f.snoc k i g r s keys kids) (f'.snoc k i g r' s keys kids')
  | .nil, .nil, _ => ⟨⟨rfl, rfl, rfl, h1, rfl, rfl⟩, h2, trivial⟩
  | .cons _ _ _ _ _ _ _ _, .cons _ _ _ _ _ _ _ _, ⟨a, b, c⟩ => ⟨a, b, SameF.snoc h1 h2 c⟩
theorem SameF.at : ∀ {j : Nat} {f f' : F}, SameF f f' → ∀ {k i g : Int} {r : Nat} {s : ByteArray} {keys : List ByteArray} {kids rest : F}, f.drop j = .cons k i g r s keys kids rest → ∃ r' kids' rest', f'.drop j = .cons k i g r' s keys kids' rest' ∧ feq r r' ∧ SameF kids kids'
  | 0, .cons _ _ _ _ _ _ _ _, .cons _ _ _ _ _ _ _ _, ⟨⟨h1, h2, h3, h4, h5, h6⟩, h7, _⟩, _, _, _, _, _, _, _, _, hd => by
    simp only [F.drop, F.cons.injEq] at hd
    obtain ⟨rfl, rfl, rfl, rfl, rfl, rfl, rfl, rfl⟩ := hd
    subst h1 h2 h3 h5 h6
    exact ⟨_, _, _, rfl, h4, h7⟩
  | 0, .nil, _, _, _, _, _, _, _, _, _, _, hd => by cases hd
  | n + 1, .nil, _, _, _, _, _, _, _, _, _, _, hd => by cases hd
  | n + 1, .cons _ _ _ _ _ _ _ rest, .cons _ _ _ _ _ _ _ rest', ⟨_, _, h⟩, _, _, _, _, _, _, _, _, hd => SameF.at (j := n) h hd
theorem SameF.refl : ∀ {f : F}, Good f → SameF f f
  | .nil, _ => trivial
  | .cons _ _ _ _ _ _ _ _, ⟨a, b, c⟩ => ⟨⟨rfl, rfl, rfl, a.real, rfl, rfl⟩, SameF.refl b, SameF.refl c⟩
end Go.Proofs.YtfkecmlmnhbmoaaGreatDoor
namespace Go.Proofs.YtfkecmlmnhbmoaaGreatDoor
open Go.RowKit Go.Maps
/-- The fields of all nodes are in their ranges. -/
def FitF : F → Prop
  | .nil => True
  | .cons k i g r s keys kids rest => (Fld k i g r s ∧ ∀ x ∈ keys, x.size ≤ 140737488351232) ∧ FitF kids ∧ FitF rest
theorem KeysIn.sizes {P : Nat → Prop} {w : World} {a : Option Addr} {cap : Nat} {ks : List ByteArray} (h : KeysIn P w a cap ks) : ∀ x ∈ ks, x.size ≤ 140737488351232 := fun x hx => by
  obtain ⟨n, hn, rfl⟩ := List.getElem_of_mem hx
  obtain ⟨_, _, _, _, _, h⟩ := h.2.2 n hn
  exact h
theorem In.fit {P : Nat → Prop} {w : World} : ∀ {f : F} {b o : Nat}, In P w f b o → FitF f
  | .nil, _, _, _ => trivial
  | .cons k i g r s keys kids rest, b, o, ⟨⟨ka, kc, a, cap, _, hf, hks, _, _, hn3⟩, hr⟩ => by
    refine ⟨⟨hf, hks.sizes⟩, ?_, In.fit hr⟩
    rcases hn3 with h | ⟨b', o', _, _, hi⟩
    · rw [F.len_zero h]; trivial
    · exact In.fit hi
/-- An object as the conversions want it. -/
structure Ok1 (k i g : Int) (r : Nat) (s : ByteArray) (keys : List ByteArray) (kids : F) : Prop where
  good1 : Good1 k i g r s keys kids
  good : Good kids
  fld : Fld k i g r s
  ks : ∀ x ∈ keys, x.size ≤ 140737488351232
  fit : FitF kids
def OkF (f : F) : Prop := Good f ∧ FitF f
theorem Node.fit {P : Nat → Prop} {w : World} {k i g : Int} {r : Nat} {s : ByteArray} {keys : List ByteArray} {kids : F} {ka : Option Addr} {kc : Nat} {a : Option Addr} {cap : Nat} (h : Node P w k i g r s keys kids ka kc a cap) : FitF kids := by
  rcases h.kids.2.2 with h | ⟨b', o', _, _, hi⟩
  · rw [F.len_zero h]; trivial
  · exact In.fit hi
theorem Node.ok {P : Nat → Prop} {w : World} {k i g : Int} {r : Nat} {s : ByteArray} {keys : List ByteArray} {kids : F} {ka : Option Addr} {kc : Nat} {a : Option Addr} {cap : Nat} (h : Node P w k i g r s keys kids ka kc a cap) (h1 : Good1 k i g r s keys kids) (h2 : Good kids) : Ok1 k i g r s keys kids :=
  ⟨h1, h2, h.fld, h.keys.sizes, h.fit⟩
theorem FitF.drop : ∀ (n : Nat) {f : F}, FitF f → FitF (f.drop n)
  | 0, _, h => h
  | _ + 1, .nil, _ => trivial
  | n + 1, .cons _ _ _ _ _ _ _ rest, h => FitF.drop n (f := rest) h.2.2
theorem OkF.at {f : F} (h : OkF f) {j : Nat} {k i g : Int} {r : Nat} {s : ByteArray} {keys : List ByteArray} {kids rest : F} (hd : f.drop j = .cons k i g r s keys kids rest) : Ok1 k i g r s keys kids := by
  have h1 := h.1.at hd
  have h2 := h.2.drop j
  rw [hd] at h2
  exact ⟨h1.1, h1.2, h2.1.1, h2.1.2, h2.2.1⟩
/-- What impl.tell hands back. -/
def TeE (k i g : Int) (r : Nat) (s : ByteArray) (keys : List ByteArray) (kids : F) (w : World) (e : Ending) (w' : World) : Prop :=
  Kept [] w w' ∧ ∃ (r' : Nat) (ka : Option Addr) (kc : Nat) (a : Option Addr) (cap : Nat) (kids' : F), e = .returned (.tuple #[.agg #[.int .i64 k, .int .i64 i, .int .i64 g, .float .f64 r', .string s, .slice ka keys.length kc, .slice a kids'.len cap], .bool true]) ∧
    Node (Fr 0 w.heap.size w'.heap.size) w' k i g r' s keys kids' ka kc a cap ∧ feq r' r ∧ SameF kids' kids
def TeC (k i g : Int) (r : Nat) (s : ByteArray) (keys : List ByteArray) (kids : F) : Prop := ∀ (P : Nat → Prop) (v : Value) (w : World), Ob1 P w k i g r s keys kids v → (∀ b, P b → b < w.heap.size) → Ok1 k i g r s keys kids →
  Calls Tryz.prog 31 #[v] w (TeE k i g r s keys kids w)
def TsE (kids : F) (w : World) (e : Ending) (w' : World) : Prop :=
  Kept [] w w' ∧ ∃ (a : Option Addr) (cap : Nat) (kids' : F), e = .returned (.tuple #[.slice a kids'.len cap, .bool true]) ∧ Kids (Fr 0 w.heap.size w'.heap.size) w' a cap kids' ∧ SameF kids' kids
structure TsL (w : World) (kids : F) (v4 v11 : Value) (wr : World) : Prop where
  ex : ∃ (j M : Nat) (f : F), v11 = .int .i64 j ∧ j ≤ kids.len ∧ OwnF 26 w.heap.size 0 w.heap.size M wr v4 f ∧ f.len = j ∧ SameF f (kids.take j) ∧ Kept [] w wr
set_option maxRecDepth 100000 in
set_option maxHeartbeats 6000000 in
theorem tellsw (kids : F) (P : Nat → Prop) (a : Option Addr) (cap : Nat) (xs : List Value) (w : World) (hrow : RowIn P w a xs) (hob : ObR P w kids xs) (hP : ∀ b, P b → b < w.heap.size) (_hcap : kids.len ≤ cap) (hb : kids.len * 96 ≤ 140737488355328) (hok : OkF kids) (ih : AllN TeC kids) :
    Calls Tryz.prog 52 #[.slice a kids.len cap] w (TsE kids w) := by
  have hlk : kids.len ≤ 140737488351232 := by omega
  have hxl := hob.len
  have HR := Lib.hid hrow; have HOB := Lib.hid hob; have HOK := Lib.hid hok; have HIH := Lib.hid ih; have HXL := Lib.hid hxl; clear hrow hob hok ih hxl
  go_enter Tryz.func52, Tryz.ntmps52
  go_wp2_with fail
  go_loopw [4, 6, 7, 8, 11] (fun v4 _ _ _ v11 wr => TsL w kids v4 v11 wr) (fun _ _ _ _ v _ => kids.len - (intOf v).toNat)
  case atStart => exact ⟨0, w.heap.size, .nil, rfl, by omega, OwnF.nil (Nat.le_refl _) (Nat.zero_le _) (Nat.le_refl _), rfl, trivial, Kept.refl _ _⟩
  case round =>
    obtain ⟨j, M, f, rfl, hj, hO, hfl, hsm, hK⟩ := hrel
    have HO := Lib.hid hO; have HFL := Lib.hid hfl; have HSM := Lib.hid hsm; clear hO hfl hsm
    by_cases hlt : j < kids.len
    · obtain ⟨k', i', g', r', s', keys', kids', hd⟩ := F.drop_lt hlt
      obtain ⟨v, hv, hv1⟩ := HOB.out.at hd
      have hjx : j < xs.length := by rw [HXL.out]; exact hlt
      obtain ⟨b, o, rfl, hPb, hc⟩ := (HR.out.kept hK (fun b hb => ⟨hP b hb, by simp⟩)) j hjx
      rw [List.getElem?_eq_getElem hjx] at hv
      rw [Option.some.inj hv] at hc
      have hif := hv1.ifv
      have hcall := (HIH.out.at hd) P v wr (hv1.kept hK (fun b hb => ⟨hP b hb, by simp⟩)) (fun b hb => Nat.lt_of_lt_of_le (hP b hb) hK.size) (HOK.out.at hd)
      have hflen : (f.len + 1) * 96 ≤ 140737488355328 := by have := HFL.out; omega
      have HC := Lib.hid hcall; have HD := Lib.hid hd; have HIF := Lib.hid hif; clear hcall hd hv hv1 hif
      go_wp2_with fail
      refine HC.out.mono ?_
      rintro e w2 ⟨hK3, r2, ka2, kc2, a2, cap2, kids2, rfl, hnode2, hrr, hss⟩
      have HRR := Lib.hid hrr; have HSS := Lib.hid hss; clear hrr hss hc
      have hO := HO.out
      obtain ⟨⟨cs, hr, hfl⟩, hM, hNB, hBH⟩ := hO
      obtain ⟨i0, hi, hz0, hz1, hz2⟩ := info_parts Tryz.info26
      have hr2 : w2.ownsRow w.heap.size 26 7 u4 f.len cs := hr.kept (hK3.grown none) (by cases u4.ownBlock <;> simp)
      have hown : ∀ b, u4.ownBlock = some b → w.heap.size ≤ b ∧ b < wr.heap.size := hr.lt
      have hws : w.heap.size ≤ w2.heap.size := Nat.le_trans hK.size hK3.size
      have HFLAT := Lib.hid hfl; have HNODE := Lib.hid hnode2; clear hfl hnode2
      go_wp2_with (at_builtin; go_must (refine app1 rfl _ _ 24 26 i0 (.agg #[.int .i64 0, .int .i64 0, .int .i64 0, .float .f64 0, .string ⟨#[]⟩, .slice none 0 0, .slice none 0 0]) 7 96 rfl Tryz.underlying24 hi hz0 hz1 hz2 rfl (by decide) rfl ((hr2.alloc _).alloc _) ⟨_, 0, none⟩ [.int .i64 k', .int .i64 i', .int .i64 g', .float .f64 r2, .string s', .slice ka2 keys'.length kc2, .slice a2 kids2.len cap2] rfl rfl ?c1 ?c2 hflen (by decide) ?c5 ?_))
      case c1 => exact cells_new_at _ _ _ _ (by simp)
      case c2 => simp [Value.oneCell']
      case c5 => simp; omega
      intro v' w' hrow' hg' hv'
      obtain ⟨W3, hW3⟩ : ∃ W3, W3 = (w2.alloc (.cells #[.int .i64 k', .int .i64 i', .int .i64 g', .float .f64 r2, .string s', .slice ka2 keys'.length kc2, .slice a2 kids2.len cap2] 26)).alloc (.cells #[.int .i64 k', .int .i64 i', .int .i64 g', .float .f64 r2, .string s', .slice ka2 keys'.length kc2, .slice a2 kids2.len cap2] 26) := ⟨_, rfl⟩
      have hK23 : Kept [] w2 W3 := by rw [hW3]; exact ((Kept.refl [] w2).alloc _).alloc _
      have hsz3 : W3.heap.size = w2.heap.size + 1 + 1 := by rw [hW3]; simp
      rw [← hW3] at hg'
      rw [← hsz3] at hv'
      have hK3' : Kept [] wr W3 := Kept.trans hK3 hK23 (by simp) (by simp)
      have hKw : Kept [] W3 w' ∨ ∃ b, u4.ownBlock = some b ∧ Kept [b] W3 w' := by
        cases hvo : u4.ownBlock with
        | none => exact .inl (Kept.of_grown hg' (fun k hk => by rw [hvo] at hk; cases hk))
        | some b => exact .inr ⟨b, rfl, Kept.of_grown hg' (fun k hk => by rw [hvo] at hk; cases hk; simp)⟩
      have hOF := OwnF.snoc (E := 26) (B := w.heap.size) (N := 0) (H := w.heap.size) (M := M) (w := W3) (w' := w') (v := u4) (v' := v') (f := f) (h0 := wr.heap.size) (cs := cs)
        (by rw [hW3]; exact (hr2.alloc _).alloc _) (HFLAT.out.kept hK3' (fun b hb => ⟨by rcases hb with h | ⟨_, h, _⟩ <;> omega, by simp⟩)) (Nat.le_trans hM hK3'.size) hNB hBH hM hK.size (fun b hb => (hown b hb).2)
        ((HNODE.out.kept hK23 (fun b hb => ⟨by rcases hb with h | ⟨_, h⟩ <;> omega, by simp⟩)).mono (fun b hb => by rcases hb with h | ⟨h, h2⟩; exact .inl h; exact .inr ⟨h, Nat.lt_of_lt_of_le h2 hK23.size⟩)) (Nat.zero_le _) hrow' hKw hv'
      have hKb : Kept [] w w' := by
        have h1 : Kept [] w W3 := Kept.trans (Z := []) hK hK3' (by simp) (by simp)
        rcases hKw with h | ⟨b, hb, h⟩
        · exact Kept.trans h1 h (by simp) (by simp)
        · exact Kept.trans h1 h (by simp) (fun y hy hl => by simp at hy; subst hy; have := (hown _ hb).1; omega)
      have HOF := Lib.hid hOF; have HKB := Lib.hid hKb; clear hOF hKb hKw hg' hv' hrow' hr hr2 hown hK3' hK23 hsz3 hW3
      go_wp2_with fail
      refine ⟨⟨j + 1, W3.heap.size, _, by go_num, by omega, HOF.out, by rw [F.len_snoc, HFL.out], ?_, HKB.out⟩, by simp [intOf]; omega⟩
      rw [F.take_succ j HD.out]; exact SameF.snoc HRR.out HSS.out HSM.out
    · have hjl : j = kids.len := by omega
      obtain ⟨a9, cap9, rfl⟩ := HO.out.slice
      have hfb : f.len * 96 ≤ 140737488355328 := by have := HFL.out; omega
      have hkd := (HO.out.kids hfb).2
      have hsame : SameF f kids := by have := HSM.out; rw [hjl, F.take_all] at this; exact this
      have HKD := Lib.hid hkd; have HS := Lib.hid hsame; clear hkd hsame hjl
      go_wp2_with fail
      go_ret2
      exact ⟨hK, a9, cap9, f, rfl, HKD.out, HS.out⟩
end Go.Proofs.YtfkecmlmnhbmoaaGreatDoor
