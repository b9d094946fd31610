import Derived.Test.YtfkecmlmnhbmoaaGreatDoorWn29
namespace Go.Proofs.YtfkecmlmnhbmoaaGreatDoor
open Go.RowKit Go.Maps
/-- The first number from f0 on whose key is not among them. -/
structure FirstK (keys : List ByteArray) (pre : ByteArray) (f0 n : Nat) : Prop where
  ge : f0 ≤ n
  all : ∀ x, f0 ≤ x → x < n → pre ++ txtOf x ∈ keys
  not : pre ++ txtOf n ∉ keys
theorem FirstK.same {keys : List ByteArray} {pre : ByteArray} {f0 n m : Nat} (h : FirstK keys pre f0 n) (k : FirstK keys pre f0 m) : n = m := by
  rcases Nat.lt_trichotomy n m with h1 | h1 | h1
  · exact absurd (k.all n h.ge h1) h.not
  · exact h1
  · exact absurd (h.all m k.ge h1) k.not
theorem pigk (keys : List ByteArray) (pre : ByteArray) (f0 j : Nat) (h : ∀ x, f0 ≤ x → x < f0 + j → pre ++ txtOf x ∈ keys) : j ≤ keys.length := by
  classical
  exact pigj (fun x => pre ++ txtOf (f0 + x)) (fun a b e => by have := txtOf_inj (pre_inj e); omega) keys j (fun x hx => h _ (by omega) (by omega))
set_option maxRecDepth 100000 in
set_option maxHeartbeats 3000000 in
theorem freshkey (i g : Int) (r : Nat) (s : ByteArray) (keys : List ByteArray) (kids : F) (N : Nat) (ka : Option Addr) (kc : Nat) (a : Option Addr) (cap : Nat) (pre : ByteArray) (f0 : Nat) (w : World) (hn : Node (Lt N) w 8 i g r s keys kids ka kc a cap) (ht : Tb N w) (hN : N ≤ w.heap.size)
    (hg1 : Good1 8 i g r s keys kids) (hg : Good kids) (hks : ∀ x ∈ keys, Simp x) (hp : pre.size ≤ 2147483647) (hf : f0 ≤ 1000) (hkl : keys.length ≤ 5000) :
    Calls Tryz.prog 14 #[.agg #[.int .i64 8, .int .i64 i, .int .i64 g, .float .f64 r, .string s, .slice ka keys.length kc, .slice a kids.len cap], .string pre, .int .i64 f0] w (fun e w' => Kept [] w w' ∧ ∃ n, e = .returned (.tuple #[.string (pre ++ txtOf n), .bool true]) ∧ FirstK keys pre f0 n) := by
  have hlen := hg1.len rfl
  have hasc := hg1.ascend rfl
  obtain ⟨⟨⟨k1, k2⟩, ⟨i1, i2⟩, ⟨g1, g2⟩, r1, s1⟩, hkeys, hkids⟩ := hn
  obtain ⟨w0, hw0⟩ : ∃ w0, w0 = w.alloc (.cells #[.int .i64 8, .int .i64 i, .int .i64 g, .float .f64 r, .string s, .slice ka keys.length kc, .slice a kids.len cap] 26) := ⟨_, rfl⟩
  have hK0 : Kept [] w w0 := by rw [hw0]; exact (Kept.refl [] w).alloc _
  have hX : w0.heap[w.heap.size]? = some (.cells #[.int .i64 8, .int .i64 i, .int .i64 g, .float .f64 r, .string s, .slice ka keys.length kc, .slice a kids.len cap] 26 (0, 0)) := by rw [hw0]; exact heap_at rfl
  obtain ⟨⟨c0, c1, c2, c3, c4, c5, c6⟩, _⟩ := seven hX
  have hkeys0 := hkeys.kept hK0 (ltk hN (by simp))
  have hkids0 := hkids.kept hK0 (ltk hN (by simp))
  have hN0 : N ≤ w0.heap.size := Nat.le_trans hN hK0.size
  have HX := Lib.hid hX
  have HKE := Lib.hid hkeys0; have HKI := Lib.hid hkids0; have HLE := Lib.hid hlen; have HG := Lib.hid hg; have HKS := Lib.hid hks; have HAS := Lib.hid hasc; clear hasc hX hkeys hkids hkeys0 hkids0 hlen hg hg1 hks
  go_enter Tryz.func14, Tryz.ntmps14
  go_upto_region 1 with fail
  rw [← hw0]
  clear hw0
  go_wp2_with fail
  refine (dictc keys kids N ka kc a cap w0 HKE.out HKI.out hN0 HLE.out HAS.out HG.out (ob_all kids)).mono ?_
  rintro e w1 ⟨hK1, b, D, ys, rfl, hb, hown, hmi, hob⟩
  have hhas := hmi.has
  clear hmi hob
  have hK2 : Kept [] w w1 := Kept.trans hK0 hK1 (by simp) (by simp)
  have hX1 := (hK1.block w.heap.size (lt_of_block HX.out) (by simp)).trans HX.out
  clear c0 c1 c2 c3 c4 c5 c6
  obtain ⟨⟨c0, c1, c2, c3, c4, c5, c6⟩, _⟩ := seven hX1
  clear hX1
  have hKSD : KS D := fun x hx => HKS.out x ((hhas x).1 hx)
  have hfin : ∀ j, (∀ x, f0 ≤ x → x < f0 + j → hasN D pre x) → j ≤ keys.length := fun j h => pigk keys pre f0 j fun x h1 h2 => (hhas _).1 (h x h1 h2)
  have hcall := newid pre hp f0 keys.length hf (by omega) b keys.length N D w1 hown hKSD (ht.kept hK2 hN (by simp)) (Nat.le_trans hN hK2.size) hfin
  have HC := Lib.hid hcall; have HH := Lib.hid hhas
  clear hcall hhas hKSD hfin hown
  go_wp2_with fail
  refine HC.out.mono ?_
  rintro e w2 ⟨hK3, n, rfl, hf1, hf2, hf3⟩
  have hK4 : Kept [] w w2 := Kept.trans hK2 hK3 (by simp) (by simp)
  have hfk : FirstK keys pre f0 n := ⟨hf1, fun x h1 h2 => (HH.out _).1 (hf2 x h1 h2), fun h => hf3 ((HH.out _).2 h)⟩
  have HF := Lib.hid hfk; clear hfk hf1 hf2 hf3
  go_wp2_with fail
  go_ret2
  exact ⟨hK4, n, rfl, HF.out⟩
end Go.Proofs.YtfkecmlmnhbmoaaGreatDoor
namespace Go.Proofs.YtfkecmlmnhbmoaaGreatDoor
open Go.RowKit Go.Maps
/-- Where a key stands: its first place, or -1. -/
def PlaceOf (keys : List ByteArray) (key : ByteArray) (p : Int) : Prop := (p = -1 ∧ key ∉ keys) ∨ ∃ j : Nat, p = j ∧ keys[j]? = some key ∧ ∀ i, i < j → keys[i]? ≠ some key
def DfL (w0 : World) (keys : List ByteArray) (key : ByteArray) (v : Value) (wr : World) : Prop := ∃ j : Nat, j ≤ keys.length ∧ v = .int .i64 j ∧ (∀ i, i < j → keys[i]? ≠ some key) ∧ w0 = wr
set_option maxRecDepth 100000 in
set_option maxHeartbeats 3000000 in
theorem dictfind (key : ByteArray) (k i g : Int) (r : Nat) (s : ByteArray) (keys : List ByteArray) (kids : F) (N : Nat) (ka : Option Addr) (kc : Nat) (a : Option Addr) (cap : Nat) (w : World) (hn : Node (Lt N) w k i g r s keys kids ka kc a cap) (hN : N ≤ w.heap.size) :
    Calls Tryz.prog 33 #[.agg #[.int .i64 k, .int .i64 i, .int .i64 g, .float .f64 r, .string s, .slice ka keys.length kc, .slice a kids.len cap], .string key] w (fun e w' => Kept [] w w' ∧ ∃ p : Int, e = .returned (.int .i64 p) ∧ PlaceOf keys key p) := by
  obtain ⟨⟨⟨k1, k2⟩, ⟨i1, i2⟩, ⟨g1, g2⟩, r1, s1⟩, hkeys, hkids⟩ := hn
  have hk1 : keys.length ≤ 140737488351232 := by have := hkeys.1; have := hkeys.2.1; omega
  obtain ⟨w0, hw0⟩ : ∃ w0, w0 = w.alloc (.cells #[.int .i64 k, .int .i64 i, .int .i64 g, .float .f64 r, .string s, .slice ka keys.length kc, .slice a kids.len cap] 26) := ⟨_, rfl⟩
  have hK0 : Kept [] w w0 := by rw [hw0]; exact (Kept.refl [] w).alloc _
  have hX : w0.heap[w.heap.size]? = some (.cells #[.int .i64 k, .int .i64 i, .int .i64 g, .float .f64 r, .string s, .slice ka keys.length kc, .slice a kids.len cap] 26 (0, 0)) := by rw [hw0]; exact heap_at rfl
  obtain ⟨⟨c0, c1, c2, c3, c4, c5, c6⟩, _⟩ := seven hX
  have hkeys0 := hkeys.kept hK0 (ltk hN (by simp))
  have HKE := Lib.hid hkeys0; clear hX hkeys hkids hkeys0
  go_enter Tryz.func33, Tryz.ntmps33
  go_upto_region 1 with fail
  rw [← hw0]
  clear hw0
  go_wp2_with fail
  clear c0 c1 c2 c3 c4 c5 c6
  go_loopw [5, 6, 10] (fun _ _ v wr => DfL w0 keys key v wr) (fun _ _ v _ => keys.length - (intOf v).toNat)
  case atStart => exact ⟨0, by omega, rfl, by omega, rfl⟩
  case round =>
    obtain ⟨j, hj, rfl, hs, rfl⟩ := hrel
    have HS := Lib.hid hs; clear hs
    by_cases hlt : j < keys.length
    · obtain ⟨b, o, rfl, hbN, hc, hsz⟩ := HKE.out.2.2 j hlt
      by_cases hkey : keys[j] = key
      · have zk := beq_of hkey
        have hat : keys[j]? = some key := by rw [List.getElem?_eq_getElem hlt, hkey]
        have HA := Lib.hid hat; clear hkey hat
        go_wp2_with fail
        go_ret
        exact ⟨hK0, j, rfl, .inr ⟨j, rfl, HA.out, HS.out⟩⟩
      · have zk := beq_not hkey
        have hat : keys[j]? ≠ some key := by rw [List.getElem?_eq_getElem hlt]; exact fun h => hkey (Option.some.inj h)
        have HA := Lib.hid hat; clear hkey hat
        go_wp2_with fail
        exact ⟨⟨j + 1, by omega, by go_num, fun x hx => by
          by_cases e : x = j
          · subst e; exact HA.out
          · exact HS.out x (by omega), rfl⟩, by simp [intOf]; omega⟩
    · have hno : key ∉ keys := fun hm => by
        obtain ⟨n, hn, h⟩ := List.getElem_of_mem hm
        exact HS.out n (by omega) (by rw [List.getElem?_eq_getElem hn, h])
      have HNO := Lib.hid hno; clear hno
      go_wp2_with fail
      go_ret
      exact ⟨hK0, -1, rfl, .inl ⟨rfl, HNO.out⟩⟩
end Go.Proofs.YtfkecmlmnhbmoaaGreatDoor
namespace Go.Proofs.YtfkecmlmnhbmoaaGreatDoor
open Go.RowKit Go.Maps
set_option maxHeartbeats 400000 in
theorem integer (n : Int) (w : World) : Calls Tryz.prog 36 #[.int .i64 n] w (fun e w' => Kept [] w w' ∧ e = .returned (.agg #[.int .i64 2, .int .i64 n, .int .i64 0, .float .f64 0, .string ⟨#[]⟩, .slice none 0 0, .slice none 0 0])) := by
  obtain ⟨w0, hw0⟩ : ∃ w0, w0 = w.alloc (.cells #[.int .i64 2, .int .i64 n, .int .i64 0, .float .f64 0, .string ⟨#[]⟩, .slice none 0 0, .slice none 0 0] 26) := ⟨_, rfl⟩
  have hK0 : Kept [] w w0 := by rw [hw0]; exact (Kept.refl [] w).alloc _
  have hX : w0.heap[w.heap.size]? = some (.cells #[.int .i64 2, .int .i64 n, .int .i64 0, .float .f64 0, .string ⟨#[]⟩, .slice none 0 0, .slice none 0 0] 26 (0, 0)) := by rw [hw0]; exact heap_at rfl
  obtain ⟨⟨e0, e1, e2, e3, e4, e5, e6⟩, _⟩ := seven hX
  go_enter Tryz.func36, Tryz.ntmps36
  go_wp2_with fail
  rw [← hw0]
  refine bodyPost_ret (v := .agg #[.int .i64 2, .int .i64 n, .int .i64 0, .float .f64 0, .string ⟨#[]⟩, .slice none 0 0, .slice none 0 0]) (by simp [results, Tryz.results36, go_sem, e0, e1, e2, e3, e4, e5, e6]) rfl ?_
  exact ⟨hK0, rfl⟩
end Go.Proofs.YtfkecmlmnhbmoaaGreatDoor
