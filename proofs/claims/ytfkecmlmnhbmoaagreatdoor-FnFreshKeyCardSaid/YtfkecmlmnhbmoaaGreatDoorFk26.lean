import Derived.Test.YtfkecmlmnhbmoaaGreatDoorFk25
import Derived.BigRegion
import Derived.Deep.RegionWith
import Derived.Deep.RegionHeld3
namespace Go.Proofs.YtfkecmlmnhbmoaaGreatDoor
open Go.RowKit
theorem leafNode {P : Nat → Prop} {w : World} {k i g : Int} {r : Nat} {s : ByteArray} (h : Fld k i g r s) : Node P w k i g r s [] .nil none 0 none 0 :=
  ⟨h, ⟨by simp, by simp, fun i hi => by simp at hi⟩, ⟨by simp [F.len], by simp [F.len], .inl rfl⟩⟩
theorem foNo {N : Nat} {w w' : World} {k i g : Int} {r : Nat} {s : ByteArray} {keys : List ByteArray} {kids : F} (hK : Kept [] w w') : FoE N w k i g r s keys kids (.returned (.tuple #[.agg #[.int .i64 0, .int .i64 0, .int .i64 0, .float .f64 0, .string ⟨#[]⟩, .slice none 0 0, .slice none 0 0], .bool false])) w' :=
  ⟨hK, 0, 0, 0, 0, ⟨#[]⟩, none, 0, 0, none, 0, 0, false, rfl, (fun h => by cases h), fun _ => ⟨[], .nil, rfl, rfl, leafNode ⟨⟨by decide, by decide⟩, ⟨by decide, by decide⟩, ⟨by decide, by decide⟩, by decide, by decide⟩⟩⟩
/-- A value without parts. -/
theorem foLeaf {N : Nat} {w w' : World} {k i g k' i' g' : Int} {r r' : Nat} {s s' : ByteArray} {keys : List ByteArray} {kids : F} {b : Bool} (hK : Kept [] w w') (hf : Fld k' i' g' r' s') (hg : b = true → Good1 k i g r s keys kids ∧ kids = .nil) (hk : (k = 0 ↔ k' = 0) ∧ k ≠ 8) :
    FoE N w k i g r s keys kids (.returned (.tuple #[.agg #[.int .i64 k', .int .i64 i', .int .i64 g', .float .f64 r', .string s', .slice none 0 0, .slice none 0 0], .bool b])) w' :=
  ⟨hK, k', i', g', r', s', none, 0, 0, none, 0, 0, b, rfl, fun hb => by
    obtain ⟨h1, rfl⟩ := hg hb
    exact ⟨h1, trivial, [], .nil, rfl, rfl, leafNode hf, ⟨hk.1, fun h => absurd h hk.2⟩, trivial⟩, fun _ => ⟨[], .nil, rfl, rfl, leafNode hf⟩⟩
theorem onlyNil {k i g : Int} {r : Nat} {s : ByteArray} {nk : Nat} {kids : F} (h : Only k i g r s nk kids.len) (hk : k ≠ 7 ∧ k ≠ 8) : kids = .nil := by
  rcases h.kids with h | h | h
  · exact F.len_zero h
  · exact absurd h hk.1
  · exact absurd h hk.2
end Go.Proofs.YtfkecmlmnhbmoaaGreatDoor
namespace Go.Proofs.YtfkecmlmnhbmoaaGreatDoor
open Go.RowKit

end Go.Proofs.YtfkecmlmnhbmoaaGreatDoor
namespace Go.Proofs.YtfkecmlmnhbmoaaGreatDoor
open Go.RowKit

end Go.Proofs.YtfkecmlmnhbmoaaGreatDoor
namespace Go.Proofs.YtfkecmlmnhbmoaaGreatDoor
open Go.RowKit

end Go.Proofs.YtfkecmlmnhbmoaaGreatDoor
namespace Go.Proofs.YtfkecmlmnhbmoaaGreatDoor
open Go.RowKit
end Go.Proofs.YtfkecmlmnhbmoaaGreatDoor
namespace Go.Proofs.YtfkecmlmnhbmoaaGreatDoor
open Go.RowKit
theorem foKids {N : Nat} {w w1 w3 : World} {k i g kk k' i' g' : Int} {r r' : Nat} {s s' : ByteArray} {keys keys0 : List ByteArray} {kids : F} {ka0 ka' a' : Option Addr} {kc0 nk' kc' nd' cap' : Nat} {b : Bool} (hN : N ≤ w.heap.size) (hK2 : Kept [] w w1) (hS1 : w.heap.size + 1 < w1.heap.size) (hK3 : Kept [] w1 w3)
    (hb : b = true → Good kids ∧ k' = kk ∧ i' = 0 ∧ g' = 0 ∧ r' = 0 ∧ s' = ⟨#[]⟩ ∧ ka' = ka0 ∧ nk' = keys0.length ∧ kc' = kc0 ∧ ∃ kids', nd' = kids'.len ∧ Kids (Fr N w1.heap.size w3.heap.size) w3 a' cap' kids' ∧ Cv kids kids') (hbf : b = false → k' = 0 ∧ i' = 0 ∧ g' = 0 ∧ r' = 0 ∧ s' = ⟨#[]⟩ ∧ ka' = none ∧ nk' = 0 ∧ kc' = 0 ∧ a' = none ∧ nd' = 0 ∧ cap' = 0)
    (hg : b = true → Good1 k i g r s keys kids) (hkk : (k = 0 ↔ kk = 0) ∧ I64 kk) (hkeys : KeysIn (Lt N) w1 ka0 kc0 keys0 ∧ (k = 8 → keys0 = keys)) :
    FoE N w k i g r s keys kids (.returned (.tuple #[.agg #[.int .i64 k', .int .i64 i', .int .i64 g', .float .f64 r', .string s', .slice ka' nk' kc', .slice a' nd' cap'], .bool b]))
      (((((((w3.setCell ⟨w.heap.size + 1, 0, none⟩ (.int .i64 k')).setCell ⟨w.heap.size + 1, 1, none⟩ (.int .i64 i')).setCell ⟨w.heap.size + 1, 2, none⟩ (.int .i64 g')).setCell ⟨w.heap.size + 1, 3, none⟩ (.float .f64 r')).setCell ⟨w.heap.size + 1, 4, none⟩ (.string s')).setCell ⟨w.heap.size + 1, 5, none⟩ (.slice ka' nk' kc')).setCell ⟨w.heap.size + 1, 6, none⟩ (.slice a' nd' cap')) := by
  have hK4 : Kept [] w w3 := Kept.trans hK2 hK3 (by simp) (by simp)
  refine ⟨kept7 hK4 (.inl (by omega)) _ _ _ _ _ _ _, k', i', g', r', s', ka', nk', kc', a', nd', cap', b, rfl, fun h => ?_, fun h => by
    obtain ⟨rfl, rfl, rfl, rfl, rfl, rfl, rfl, rfl, rfl, rfl, rfl⟩ := hbf h
    exact ⟨[], .nil, rfl, rfl, leafNode ⟨⟨by decide, by decide⟩, ⟨by decide, by decide⟩, ⟨by decide, by decide⟩, by decide, by decide⟩⟩⟩
  obtain ⟨h1, rfl, rfl, rfl, rfl, rfl, rfl, rfl, rfl, kids', rfl, h2, h3⟩ := hb h
  have hKw := kept7 (b := w.heap.size + 1) (Kept.refl [w.heap.size + 1] w3) (.inr (by simp)) (.int .i64 k') (.int .i64 0) (.int .i64 0) (.float .f64 0) (.string ⟨#[]⟩) (.slice ka' keys0.length kc') (.slice a' kids'.len cap')
  have hN1 : N ≤ w1.heap.size := Nat.le_trans hN hK2.size
  refine ⟨hg h, h1, keys0, kids', rfl, rfl, ⟨⟨hkk.2, ⟨by omega, by omega⟩, ⟨by omega, by omega⟩, by omega, Nat.zero_le _⟩, ?_, ?_⟩, ⟨hkk.1, hkeys.2⟩, h3⟩
  · refine ((hkeys.1.kept hK3 (ltk hN1 (by simp))).kept hKw (ltk (Nat.le_trans hN hK4.size) (by simp; omega))).mono fun b hb => .inl hb
  · refine (h2.kept hKw fun b hb => ⟨?_, fun hm => ?_⟩).mono fun b hb => ?_
    · rcases hb with h | ⟨_, h⟩
      · have := hK4.size; omega
      · exact h
    · simp at hm; subst hm
      rcases hb with h | ⟨h, _⟩ <;> omega
    · rcases hb with h | ⟨h, h2⟩
      · exact .inl h
      · exact .inr ⟨by omega, by simpa using h2⟩
end Go.Proofs.YtfkecmlmnhbmoaaGreatDoor
namespace Go.Proofs.YtfkecmlmnhbmoaaGreatDoor
open Go.RowKit


end Go.Proofs.YtfkecmlmnhbmoaaGreatDoor
namespace Go.Proofs.YtfkecmlmnhbmoaaGreatDoor
open Go.RowKit
theorem foStore {N : Nat} {w w1 w3 : World} {k i g k' i' g' : Int} {r r' : Nat} {s s' : ByteArray} {keys : List ByteArray} {kids : F} {ka' a' : Option Addr} {nk' kc' nd' cap' : Nat} {b : Bool} (hN : N ≤ w.heap.size) (hK2 : Kept [] w w1) (hS1 : w.heap.size + 1 < w1.heap.size) (hK3 : Kept [] w1 w3)
    (hb : b = true → Good1 k i g r s keys kids ∧ Good kids ∧ ∃ keys' kids', nk' = keys'.length ∧ nd' = kids'.len ∧ Node (Fr N w1.heap.size w3.heap.size) w3 k' i' g' r' s' keys' kids' ka' kc' a' cap' ∧ Cv1 k keys kids k' keys' kids') (hbf : b = false → ∃ keys' kids', nk' = keys'.length ∧ nd' = kids'.len ∧ Node (Fr N w1.heap.size w3.heap.size) w3 k' i' g' r' s' keys' kids' ka' kc' a' cap') :
    FoE N w k i g r s keys kids (.returned (.tuple #[.agg #[.int .i64 k', .int .i64 i', .int .i64 g', .float .f64 r', .string s', .slice ka' nk' kc', .slice a' nd' cap'], .bool b]))
      (((((((w3.setCell ⟨w.heap.size + 1, 0, none⟩ (.int .i64 k')).setCell ⟨w.heap.size + 1, 1, none⟩ (.int .i64 i')).setCell ⟨w.heap.size + 1, 2, none⟩ (.int .i64 g')).setCell ⟨w.heap.size + 1, 3, none⟩ (.float .f64 r')).setCell ⟨w.heap.size + 1, 4, none⟩ (.string s')).setCell ⟨w.heap.size + 1, 5, none⟩ (.slice ka' nk' kc')).setCell ⟨w.heap.size + 1, 6, none⟩ (.slice a' nd' cap')) := by
  have hK4 : Kept [] w w3 := Kept.trans hK2 hK3 (by simp) (by simp)
  have tr : ∀ keys' kids', nk' = List.length keys' → nd' = F.len kids' → Node (Fr N w1.heap.size w3.heap.size) w3 k' i' g' r' s' keys' kids' ka' kc' a' cap' →
      ∀ W, W = (((((((w3.setCell ⟨w.heap.size + 1, 0, none⟩ (.int .i64 k')).setCell ⟨w.heap.size + 1, 1, none⟩ (.int .i64 i')).setCell ⟨w.heap.size + 1, 2, none⟩ (.int .i64 g')).setCell ⟨w.heap.size + 1, 3, none⟩ (.float .f64 r')).setCell ⟨w.heap.size + 1, 4, none⟩ (.string s')).setCell ⟨w.heap.size + 1, 5, none⟩ (.slice ka' nk' kc')).setCell ⟨w.heap.size + 1, 6, none⟩ (.slice a' nd' cap')) →
      Node (Fr N w.heap.size W.heap.size) W k' i' g' r' s' keys' kids' ka' kc' a' cap' := by
    intro keys' kids' e1 e2 h3 W hW
    subst hW
    have hKw := kept7 (b := w.heap.size + 1) (Kept.refl [w.heap.size + 1] w3) (.inr (by simp)) (.int .i64 k') (.int .i64 i') (.int .i64 g') (.float .f64 r') (.string s') (.slice ka' nk' kc') (.slice a' nd' cap')
    refine (h3.kept hKw fun b hb => ⟨?_, fun hm => ?_⟩).mono fun b hb => ?_
    · rcases hb with h | ⟨_, h⟩
      · have := hK4.size; omega
      · exact h
    · simp at hm; subst hm
      rcases hb with h | ⟨h, _⟩ <;> omega
    · have := hK2.size
      rcases hb with h | ⟨h, h2⟩
      · exact .inl h
      · exact .inr ⟨by omega, by simpa using h2⟩
  refine ⟨kept7 hK4 (.inl (by omega)) _ _ _ _ _ _ _, k', i', g', r', s', ka', nk', kc', a', nd', cap', b, rfl, fun h => ?_, fun h => ?_⟩
  · obtain ⟨h1, h2, keys', kids', e1, e2, h3, h4⟩ := hb h
    exact ⟨h1, h2, keys', kids', e1, e2, tr keys' kids' e1 e2 h3 _ rfl, h4⟩
  · obtain ⟨keys', kids', e1, e2, h3⟩ := hbf h
    exact ⟨keys', kids', e1, e2, tr keys' kids' e1 e2 h3 _ rfl⟩
end Go.Proofs.YtfkecmlmnhbmoaaGreatDoor
namespace Go.Proofs.YtfkecmlmnhbmoaaGreatDoor
open Go.RowKit
def KeyL (w0 : World) (m : Nat) (v : Value) (wr : World) : Prop := ∃ j : Nat, j ≤ m ∧ v = .int .i64 j ∧ wr = w0
set_option maxRecDepth 100000 in
set_option maxHeartbeats 3000000 in
theorem zfits2 (keys : List ByteArray) (N : Nat) (ka : Option Addr) (kc : Nat) (w : World) (hn : KeysIn (Lt N) w ka kc keys) :
    Calls Tryz.prog 21 #[.slice ka keys.length kc] w (fun e w' => RetB e ∧ w = w') := by
  have hlk : keys.length ≤ 140737488351232 := by have := hn.1; have := hn.2.1; omega
  have HK := Lib.hid hn; clear hn
  go_enter Tryz.func21, Tryz.ntmps21
  go_wp2_with fail
  · go_ret
    exact ⟨⟨_, rfl⟩, rfl⟩
  go_loopw [4, 10] (fun _ v wr => KeyL w keys.length v wr) (fun _ v _ => keys.length - (intOf v).toNat)
  case atStart => exact ⟨0, by omega, rfl, rfl⟩
  case round =>
    obtain ⟨j, hj, rfl, rfl⟩ := hrel
    by_cases hlt : j < keys.length
    · obtain ⟨b, o, rfl, hbN, hc, hsz⟩ := HK.out.2.2 j hlt
      go_wp2_with fail
      · go_ret
        exact ⟨⟨_, rfl⟩, rfl⟩
      · exact ⟨⟨j + 1, by omega, by go_num, rfl⟩, by simp [intOf]; omega⟩
    · go_wp2_with fail
      go_ret
      exact ⟨⟨_, rfl⟩, rfl⟩
/-- It fits: its parts are few. -/
def RetZ (kids : F) (e : Ending) : Prop := ∃ b : Bool, e = .returned (.bool b) ∧ (b = true → kids.len ≤ 2147483647)
set_option maxRecDepth 100000 in
set_option maxHeartbeats 3000000 in
theorem zfits1 (k i g : Int) (r : Nat) (s : ByteArray) (keys : List ByteArray) (kids : F) (N : Nat) (ka : Option Addr) (kc : Nat) (a : Option Addr) (cap : Nat) (w : World) (hn : Node (Lt N) w k i g r s keys kids ka kc a cap) (hN : N ≤ w.heap.size) :
    Calls Tryz.prog 7 #[.agg #[.int .i64 k, .int .i64 i, .int .i64 g, .float .f64 r, .string s, .slice ka keys.length kc, .slice a kids.len cap]] w (fun e w' => RetZ kids e ∧ Kept [] w w') := by
  obtain ⟨⟨⟨k1, k2⟩, ⟨i1, i2⟩, ⟨g1, g2⟩, r1, s1⟩, hkeys, hkids⟩ := hn
  have hk1 : keys.length ≤ 140737488351232 := by have := hkeys.1; have := hkeys.2.1; omega
  have hk2 : kids.len ≤ 140737488351232 := by have := hkids.1; have := hkids.2.1; omega
  obtain ⟨w0, hw0⟩ : ∃ w0, w0 = w.alloc (.cells #[.int .i64 k, .int .i64 i, .int .i64 g, .float .f64 r, .string s, .slice ka keys.length kc, .slice a kids.len cap] 26) := ⟨_, rfl⟩
  have hK0 : Kept [] w w0 := by rw [hw0]; exact (Kept.refl [] w).alloc _
  have hX : w0.heap[w.heap.size]? = some (.cells #[.int .i64 k, .int .i64 i, .int .i64 g, .float .f64 r, .string s, .slice ka keys.length kc, .slice a kids.len cap] 26 (0, 0)) := by rw [hw0]; exact heap_at rfl
  obtain ⟨⟨c0, c1, c2, c3, c4, c5, c6⟩, _⟩ := seven hX
  have hkeys0 := hkeys.kept hK0 (ltk hN (by simp))
  have HKE := Lib.hid hkeys0; have HKI := Lib.hid hkids; clear hX hkeys hkids hkeys0
  go_enter Tryz.func7, Tryz.ntmps7
  go_upto_region 1 with fail
  rw [← hw0]
  clear hw0
  go_wp2_with fail
  · go_ret
    exact ⟨⟨_, rfl, fun h => by first | (cases h; done) | omega⟩, hK0⟩
  refine (zfits2 keys N ka kc w0 HKE.out).mono ?_
  rintro e w1 ⟨⟨b, rfl⟩, rfl⟩
  cases b
  · go_wp2_with fail
    go_ret
    exact ⟨⟨_, rfl, fun h => by first | (cases h; done) | omega⟩, hK0⟩
  · go_wp2_with fail
    · go_ret
      exact ⟨⟨_, rfl, fun h => by first | (cases h; done) | omega⟩, hK0⟩
    · go_ret
      exact ⟨⟨_, rfl, fun h => by first | (cases h; done) | omega⟩, hK0⟩
/-- No null, and simple keys alone. -/
def NFree1 (k : Int) (keys : List ByteArray) : Prop := k ≠ 0 ∧ ∀ x ∈ keys, Simp x
def NFree : F → Prop
  | .nil => True
  | .cons k _ _ _ _ keys kids rest => NFree1 k keys ∧ NFree kids ∧ NFree rest
theorem NFree.snoc {k i g : Int} {r : Nat} {s : ByteArray} {keys : List ByteArray} {kids : F} (h1 : NFree1 k keys) (h2 : NFree kids) : ∀ {f : F}, NFree f → NFree (f.snoc k i g r s keys kids)
  | .nil, _ => ⟨h1, h2, trivial⟩
  | .cons _ _ _ _ _ _ _ _, ⟨a, b, c⟩ => ⟨a, b, NFree.snoc h1 h2 c⟩
def NfE (k i g : Int) (r : Nat) (s : ByteArray) (keys : List ByteArray) (kids : F) (w : World) (e : Ending) (w' : World) : Prop :=
  Kept [] w w' ∧ ∃ b : Bool, e = .returned (.bool b) ∧ (b = true → (NFree1 k keys ∧ NFree kids) ∧ Good1 k i g r s keys kids ∧ Good kids)
def NfC (k i g : Int) (r : Nat) (s : ByteArray) (keys : List ByteArray) (kids : F) : Prop := ∀ (N : Nat) (ka : Option Addr) (kc : Nat) (a : Option Addr) (cap : Nat) (w : World), Node (Lt N) w k i g r s keys kids ka kc a cap → Tb N w → N ≤ w.heap.size →
  Calls Tryz.prog 8 #[.agg #[.int .i64 k, .int .i64 i, .int .i64 g, .float .f64 r, .string s, .slice ka keys.length kc, .slice a kids.len cap]] w (NfE k i g r s keys kids w)
theorem NfE.no {k i g : Int} {r : Nat} {s : ByteArray} {keys : List ByteArray} {kids : F} {w w' : World} (h : Kept [] w w') : NfE k i g r s keys kids w (.returned (.bool false)) w' := ⟨h, false, rfl, fun h => by cases h⟩
def NfK (w0 : World) (keys : List ByteArray) (v : Value) (wr : World) : Prop := ∃ j : Nat, j ≤ keys.length ∧ v = .int .i64 j ∧ (∀ i (h : i < keys.length), i < j → Simp keys[i]) ∧ w0 = wr
def NfL (w0 : World) (kids : F) (v : Value) (wr : World) : Prop := ∃ j : Nat, j ≤ kids.len ∧ v = .int .i64 j ∧ NFree (kids.take j) ∧ Kept [] w0 wr
end Go.Proofs.YtfkecmlmnhbmoaaGreatDoor
