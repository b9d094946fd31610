import Derived.Test.YtfkecmlmnhbmoaaGreatDoorFk46
import Derived.Maps.Ext
import Derived.Maps.RangeWalk
import Derived.WalkKit
namespace Go.Proofs.YtfkecmlmnhbmoaaGreatDoor
open Go.RowKit Go.Maps
theorem law9 : Keyed Tryz.prog 9 := string_keyed Tryz.underlying9
theorem zero66 (w : World) : (zeroValue 66).run Tryz.prog w = .ok .nilIface w := by kernel_rfl
/-- An element of a dictionary reads as itself. -/
def RV (v : Value) : Option (DataW Value × List MemPlace) := some (.held v, [])
def kl (s : ByteArray) : Lit := .string s.data.toList
/-- Its keys are simple. -/
def KS (D : DataW Value) : Prop := ∀ s : ByteArray, Maps.has D (kl s) = true → Simp s
theorem kl_inj {a b : ByteArray} (h : kl a = kl b) : a = b := by
  unfold kl at h
  exact ByteArray.ext (Array.toList_inj.1 (by simpa using h))
theorem keyOf9 {key : Value} {l : Lit} (h : keyOf Tryz.prog 9 key = some l) : ∃ s, key = .string s ∧ l = kl s ∧ s.size ≤ maxLen := by
  cases key <;> simp [keyOf_string Tryz.underlying9, mapKey, Tryz.underlying9] at h
  exact ⟨_, rfl, h.2.symm, h.1⟩
theorem Kept.grown {w w' : World} (h : Kept [] w w') (r : Option Nat) : w.grownBy w' r := ⟨h.os, h.tape, h.output, h.size, fun k hk _ => h.block k hk (by simp)⟩
/-- What Find hands back. -/
def FiE (D : DataW Value) (key : ByteArray) (w : World) (e : Ending) (w' : World) : Prop := Kept [] w w' ∧ ∃ v, e = .returned (.tuple #[v, .bool (Maps.has D (kl key))]) ∧ (Maps.has D (kl key) = true → D.atKey (kl key) (.held .nilIface) = .held v) ∧ (Maps.has D (kl key) = false → v = .nilIface)
set_option maxRecDepth 100000 in
set_option maxHeartbeats 3000000 in
theorem find (key : ByteArray) (hz : key.size ≤ maxLen) (b n : Nat) (D : DataW Value) (w : World) (hown : w.ownsMap Tryz.prog 9 RV b n D) (hs : KS D) :
    Calls Tryz.prog 49 #[.map (some b), .string key] w (FiE D key w) := by
  have hkey := Go.WideMaps.keyOf_string_mk Tryz.underlying9 hz
  obtain ⟨h, hh⟩ : ∃ h, h = Maps.has D (kl key) := ⟨_, rfl⟩
  have HS := Lib.hid hs; have HH := Lib.hid hh; clear hs hh
  have hbl := hown.lt
  go_enter Tryz.func49, Tryz.ntmps49
  go_wp2_with (first
    | (at_lookup; refine wpList_lookup_own_ok _ rfl _ _ 61 rfl 9 66 law9 Tryz.underlying61 RV (zero66 _) (.held .nilIface) [] rfl b n D rfl hown _ (kl key) rfl hkey ?_; intro v ps hv; go_frame; rw [← HH.out])
    | (at_range; refine wpList_range_own _ rfl _ 61 rfl 9 66 law9 Tryz.underlying61 RV b n D rfl hown ?_; intro w0 hrg0 hg0 hs0; go_frame)
    | go_in)
  · have hf : h = true := by assumption
    subst hf
    have hv2 : D.atKey (kl key) (.held .nilIface) = .held v := by have := Option.some.inj hv; exact (congrArg Prod.fst this).symm
    go_ret2
    refine ⟨Kept.refl _ _, v, ?_, fun _ => hv2, fun h => (by rw [← HH.out] at h; cases h)⟩
    rw [← HH.out]; rfl
  · have hf : h = false := by assumption
    subst hf
    clear hv
    go_loopw [8] (fun _ wr => ∃ (left : Lit → Bool) (cnt : Nat), wr.ranges Tryz.prog 9 RV b w.heap.size n D left cnt ∧ (∀ z, left z = true → Maps.has D z = true) ∧ Kept [] w wr)
      (fun _ wr => wr.rangeLeft b w.heap.size)
    case atStart => exact ⟨_, _, hrg0, fun z hz => hz, Kept.of_grown hg0 (by simp)⟩
    case round =>
      obtain ⟨left, cnt, hrg, hle, hK⟩ := hrel
      have HL := Lib.hid hle; clear hle
      go_wp2_with (first
        | (at_next; refine wpList_next_ranges _ rfl _ rfl 9 law9 RV Value.string (fun v : Value => v) (fun key l h => by obtain ⟨s, h, _⟩ := keyOf9 h; exact ⟨s, h⟩) (fun v y _ => ⟨v, rfl⟩) b w.heap.size n D _ _ rfl hrg ?_ ?_)
        | go_in)
      · intro hc0 hl0
        go_wp2_with fail
        go_ret2
        refine ⟨hK, .nilIface, ?_, fun h => (by rw [← HH.out] at h; cases h), fun _ => rfl⟩
        rw [← HH.out]; rfl
      · intro x c l y1 y2 w1 cnt1 hkx hlx hy hat hrg1 hlt hg1 hs1 hen
        obtain ⟨s, hxs, rfl, hsz⟩ := keyOf9 hkx
        cases hxs
        have hsimp := HS.out x (HL.out _ hlx)
        have hne : x ≠ key := fun e => by subst e; have := HL.out _ hlx; rw [← HH.out] at this; cases this
        have hb := beq_not hne
        have HX := Lib.hid hsimp; have hhi := hsimp.hi
        clear hsimp hne
        have hbr : b < w1.heap.size := hrg1.owns.lt
        go_wp2_with fail
        refine (decode x _ HX.out (by omega)).mono ?_
        rintro e w2 ⟨rfl, hK2⟩
        have hrg2 := hrg1.kept (hK2.grown none) (by simp) (by simp)
        have hK3 : Kept [] w w2 := Kept.trans (Kept.trans (Z := []) hK (Kept.of_grown (X := [w.heap.size]) hg1 (fun k hk => by cases hk; simp)) (by simp) (fun y hy hl => by simp at hy; omega)) hK2 (by simp) (by simp)
        have HK3 := Lib.hid hK3; have HR2 := Lib.hid hrg2; clear hK3 hrg2
        go_wp2_with fail
        refine ⟨⟨_, cnt1, HR2.out, fun z hz => HL.out z (by simp at hz; exact hz.1), HK3.out⟩, ?_⟩
        rw [HR2.out.left_eq, hrg.left_eq]; exact hlt
end Go.Proofs.YtfkecmlmnhbmoaaGreatDoor
namespace Go.Proofs.YtfkecmlmnhbmoaaGreatDoor
open Go.RowKit Go.Maps
def hasN (D : DataW Value) (pre : ByteArray) (x : Nat) : Prop := Maps.has D (kl (pre ++ txtOf x)) = true
/-- The first number whose key is not there. -/
def FirstN (D : DataW Value) (pre : ByteArray) (f0 n : Nat) : Prop := f0 ≤ n ∧ (∀ x, f0 ≤ x → x < n → hasN D pre x) ∧ ¬ hasN D pre n
def NiM (M f0 : Nat) (v8 v9 : Value) : Nat := match v8 with
  | .bool true => M + 2 - ((intOf v9).toNat - f0)
  | _ => 0
structure NiL (D : DataW Value) (pre : ByteArray) (f0 : Nat) (w : World) (v7 v8 v9 : Value) (wr : World) : Prop where
  kept : Kept [] w wr
  st : (∃ (n : Nat) (s : ByteArray), v7 = .string s ∧ v8 = .bool true ∧ v9 = .int .i64 n ∧ f0 ≤ n ∧ ∀ x, f0 ≤ x → x < n → hasN D pre x) ∨ (∃ n m : Nat, v7 = .string (pre ++ txtOf n) ∧ v8 = .bool false ∧ v9 = .int .i64 m ∧ FirstN D pre f0 n)
theorem app_size (a b : ByteArray) : (a ++ b).size = a.size + b.size := ByteArray.size_append
set_option maxRecDepth 100000 in
set_option maxHeartbeats 3000000 in
theorem newid (pre : ByteArray) (hp : pre.size ≤ 2147483647) (f0 M : Nat) (hf : f0 ≤ 1000) (hM : M ≤ 1000000) (b n N : Nat) (D : DataW Value) (w : World) (hown : w.ownsMap Tryz.prog 9 RV b n D) (hs : KS D) (ht : Tb N w) (hN : N ≤ w.heap.size)
    (hfin : ∀ j, (∀ x, f0 ≤ x → x < f0 + j → hasN D pre x) → j ≤ M) :
    Calls Tryz.prog 29 #[.map (some b), .string pre, .int .i64 f0] w (fun e w' => Kept [] w w' ∧ ∃ n, e = .returned (.string (pre ++ txtOf n)) ∧ FirstN D pre f0 n) := by
  have HFI := Lib.hid hfin; clear hfin
  go_enter Tryz.func29, Tryz.ntmps29
  go_wp2_with fail
  go_loopw [7, 8, 9] (fun v7 v8 v9 wr => NiL D pre f0 w v7 v8 v9 wr) (fun _ v8 v9 _ => NiM M f0 v8 v9)
  case atStart => exact ⟨Kept.refl _ _, .inl ⟨f0, _, rfl, rfl, rfl, Nat.le_refl _, fun x h1 h2 => by omega⟩⟩
  case round =>
    obtain ⟨hK, ⟨m, s, rfl, rfl, rfl, hm, hall⟩ | ⟨m, m2, rfl, rfl, rfl, hfst⟩⟩ := hrel
    · have hmM : m - f0 ≤ M := HFI.out _ fun x h1 h2 => hall x h1 (by omega)
      have HA := Lib.hid hall; clear hall
      have hti : Calls Tryz.prog 27 #[.int .i64 m] wr _ := itow m N wr (by omega) (ht.kept hK hN (by simp))
      have hz : (pre ++ txtOf m).size ≤ maxLen := by rw [app_size]; have := txt_len m (by omega); unfold maxLen; omega
      have hts : (txtOf m).size ≤ 21 := txt_len m (by omega)
      have HT := Lib.hid hti; clear hti
      go_wp2_with fail
      refine HT.out.mono ?_
      rintro e w1 ⟨rfl, hK1⟩
      have hK2 : Kept [] w w1 := Kept.trans hK hK1 (by simp) (by simp)
      have hown1 := hown.kept (hK2.grown none) (by simp)
      go_wp2_with fail
      refine (find (pre ++ txtOf m) hz b n D w1 hown1 hs).mono ?_
      rintro e w2 ⟨hK3, v, rfl, h1, h2⟩
      have hK4 : Kept [] w w2 := Kept.trans hK2 hK3 (by simp) (by simp)
      clear h1 h2
      obtain ⟨h, hh⟩ : ∃ h, h = Maps.has D (kl (pre ++ txtOf m)) := ⟨_, rfl⟩
      rw [← hh]
      have HH := Lib.hid hh; clear hh
      go_wp2_with fail
      cases h
      · exact ⟨⟨hK4, .inr ⟨m, m + 1, rfl, rfl, by go_num, hm, HA.out, fun h => by unfold hasN at h; rw [← HH.out] at h; cases h⟩⟩, by simp only [NiM, intOf]; omega⟩
      · exact ⟨⟨hK4, .inl ⟨m + 1, _, rfl, rfl, by go_num, by omega, fun x h1 h2 => by
          by_cases e : x = m
          · subst e; exact HH.out.symm
          · exact HA.out x h1 (by omega)⟩⟩, by simp only [NiM, intOf]; omega⟩
    · have HF := Lib.hid hfst; clear hfst
      go_wp2_with fail
      go_ret
      exact ⟨hK, m, rfl, HF.out⟩
end Go.Proofs.YtfkecmlmnhbmoaaGreatDoor
