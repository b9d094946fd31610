import Derived.Test.YtfkecmlmnhbmoaaGreatDoorFk23
import Derived.Test.YtfkecmlmnhbmoaaGreatDoorFk24
namespace Go.Proofs.YtfkecmlmnhbmoaaGreatDoor
open Go.RowKit
def F.take : Nat → F → F
  | 0, _ => .nil
  | _ + 1, .nil => .nil
  | n + 1, .cons k i g r s keys kids rest => .cons k i g r s keys kids (rest.take n)
theorem F.take_succ : ∀ (n : Nat) {f rest : F} {k i g : Int} {r : Nat} {s : ByteArray} {keys : List ByteArray} {kids : F}, f.drop n = .cons k i g r s keys kids rest → f.take (n + 1) = (f.take n).snoc k i g r s keys kids
  | 0, .cons _ _ _ _ _ _ _ _, _, _, _, _, _, _, _, _, h => by
    simp only [F.drop, F.cons.injEq] at h
    obtain ⟨rfl, rfl, rfl, rfl, rfl, rfl, rfl, rfl⟩ := h
    rfl
  | n + 1, .nil, _, _, _, _, _, _, _, _, h => by cases h
  | n + 1, .cons _ _ _ _ _ _ _ rest0, _, _, _, _, _, _, _, _, h => by
    have := F.take_succ n (f := rest0) h
    simp only [F.take, F.snoc, this]
theorem F.take_all : ∀ (f : F), f.take f.len = f
  | .nil => rfl
  | .cons _ _ _ _ _ _ _ rest => by simp only [F.len, F.take, F.take_all rest]
/-- A key is not below the one before it. -/
def keyGe (a b : ByteArray) : Bool := !(Op.bytesLess a.toList b.toList)
structure Good1 (k i g : Int) (r : Nat) (s : ByteArray) (keys : List ByteArray) (kids : F) : Prop where
  only : Only k i g r s keys.length kids.len
  lo : 0 ≤ k
  hi : k ≤ 9
  b01 : k = 1 → i = 0 ∨ i = 1
  nan : k = 3 → ¬ isNan r
  len : k = 8 → keys.length = kids.len
  asc : k = 8 → ∀ j (h : j + 1 < keys.length), keyGe keys[j] keys[j + 1] = false
def Good : F → Prop
  | .nil => True
  | .cons k i g r s keys kids rest => Good1 k i g r s keys kids ∧ Good kids ∧ Good rest
theorem Good.snoc {k i g : Int} {r : Nat} {s : ByteArray} {keys : List ByteArray} {kids : F} (h1 : Good1 k i g r s keys kids) (h2 : Good kids) : ∀ {f : F}, Good f → Good (f.snoc k i g r s keys kids)
  | .nil, _ => ⟨h1, h2, trivial⟩
  | .cons _ _ _ _ _ _ _ _, ⟨a, b, c⟩ => ⟨a, b, Good.snoc h1 h2 c⟩
/-- A value stands for an object: null for null alone, the same keys, and parts for parts. -/
def Cv : F → F → Prop
  | .nil, .nil => True
  | .cons k _ _ _ _ keys kids rest, .cons k' _ _ _ _ keys' kids' rest' => ((k = 0 ↔ k' = 0) ∧ (k = 8 → keys' = keys)) ∧ Cv kids kids' ∧ Cv rest rest'
  | _, _ => False
def Cv1 (k : Int) (keys : List ByteArray) (kids : F) (k' : Int) (keys' : List ByteArray) (kids' : F) : Prop := ((k = 0 ↔ k' = 0) ∧ (k = 8 → keys' = keys)) ∧ Cv kids kids'
theorem Cv.snoc {k i g k' i' g' : Int} {r r' : Nat} {s s' : ByteArray} {keys keys' : List ByteArray} {kids kids' : F} (h1 : Cv1 k keys kids k' keys' kids') : ∀ {f f' : F}, Cv f f' → Cv (f.snoc k i g r s keys kids) (f'.snoc k' i' g' r' s' keys' kids')
  | .nil, .nil, _ => ⟨h1.1, h1.2, trivial⟩
  | .cons _ _ _ _ _ _ _ _, .cons _ _ _ _ _ _ _ _, ⟨a, b, c⟩ => ⟨a, b, Cv.snoc h1 c⟩
theorem Cv.len : ∀ {f f' : F}, Cv f f' → f'.len = f.len
  | .nil, .nil, _ => rfl
  | .cons _ _ _ _ _ _ _ _, .cons _ _ _ _ _ _ _ _, ⟨_, _, c⟩ => by simp [F.len, Cv.len c]
/-- What fromObject hands back. -/
def FoE (N : Nat) (w : World) (k i g : Int) (r : Nat) (s : ByteArray) (keys : List ByteArray) (kids : F) (e : Ending) (w' : World) : Prop :=
  Kept [] w w' ∧ ∃ (k' i' g' : Int) (r' : Nat) (s' : ByteArray) (ka' : Option Addr) (nk' kc' : Nat) (a' : Option Addr) (nd' cap' : Nat) (b : Bool), e = .returned (.tuple #[.agg #[.int .i64 k', .int .i64 i', .int .i64 g', .float .f64 r', .string s', .slice ka' nk' kc', .slice a' nd' cap'], .bool b]) ∧
    (b = true → Good1 k i g r s keys kids ∧ Good kids ∧ ∃ keys' kids', nk' = keys'.length ∧ nd' = kids'.len ∧ Node (Fr N w.heap.size w'.heap.size) w' k' i' g' r' s' keys' kids' ka' kc' a' cap' ∧ Cv1 k keys kids k' keys' kids') ∧
    (b = false → ∃ keys' kids', nk' = keys'.length ∧ nd' = kids'.len ∧ Node (Fr N w.heap.size w'.heap.size) w' k' i' g' r' s' keys' kids' ka' kc' a' cap')
/-- What fromKids hands back. -/
def FkE (N : Nat) (w : World) (kk : Int) (ka0 : Option Addr) (nk0 kc0 : Nat) (kids : F) (e : Ending) (w' : World) : Prop :=
  Kept [] w w' ∧ ∃ (k' i' g' : Int) (r' : Nat) (s' : ByteArray) (ka' : Option Addr) (nk' kc' : Nat) (a' : Option Addr) (nd' cap' : Nat) (b : Bool), e = .returned (.tuple #[.agg #[.int .i64 k', .int .i64 i', .int .i64 g', .float .f64 r', .string s', .slice ka' nk' kc', .slice a' nd' cap'], .bool b]) ∧
    (b = true → Good kids ∧ k' = kk ∧ i' = 0 ∧ g' = 0 ∧ r' = 0 ∧ s' = ⟨#[]⟩ ∧ ka' = ka0 ∧ nk' = nk0 ∧ kc' = kc0 ∧ ∃ kids', nd' = kids'.len ∧ Kids (Fr N w.heap.size w'.heap.size) w' a' cap' kids' ∧ Cv kids kids') ∧
    (b = false → k' = 0 ∧ i' = 0 ∧ g' = 0 ∧ r' = 0 ∧ s' = ⟨#[]⟩ ∧ ka' = none ∧ nk' = 0 ∧ kc' = 0 ∧ a' = none ∧ nd' = 0 ∧ cap' = 0)
theorem Tryz.info31 : (Tryz.prog.info? 31).map (fun i => (i.zero, i.size, i.bytes)) = some (some (.agg #[.int .i64 0, .int .i64 0, .int .i64 0, .float .f64 0, .string ⟨#[]⟩, .slice none 0 0, .slice none 0 0]), 7, 96) := by kernel_rfl
end Go.Proofs.YtfkecmlmnhbmoaaGreatDoor
