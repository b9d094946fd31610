import Derived.Test.YtfkecmlmnhbmoaaGreatDoorFk07
import Derived.Lib.ItoaLen
namespace Go.Proofs.YtfkecmlmnhbmoaaGreatDoor
open Go.RowKit Go.Sort
abbrev encB : UInt8 → Value := fun b => Value.int .u8 (b.toNat : Int)
/-- The first n cells of a block are digits. -/
structure Digs (w : World) (B n : Nat) : Prop where
  row : ∃ cs t, w.heap[B]? = some (.cells cs t (0, 0)) ∧ t ≠ 5
  dig : ∀ i, i < n → ∃ c : Int, 48 ≤ c ∧ c ≤ 57 ∧ w.cell? ⟨B, i, none⟩ = some (.int .u8 c)
theorem Digs.same {w w' : World} {B n : Nat} (h : Digs w B n) (e : w'.heap[B]? = w.heap[B]?) : Digs w' B n :=
  ⟨by rw [e]; exact h.row, fun i hi => by
    obtain ⟨c, c1, c2, hc⟩ := h.dig i hi
    exact ⟨c, c1, c2, (World.cell?_of_block (w := w) e).trans hc⟩⟩
theorem dg_digit (u k : Nat) : 48 ≤ (Lib.dg u k).toNat ∧ (Lib.dg u k).toNat ≤ 57 := by
  unfold Lib.dg
  have : (UInt8.ofNat (48 + u / 10 ^ k % 10)).toNat = 48 + u / 10 ^ k % 10 := by rw [UInt8.toNat_ofNat']; omega
  rw [this]; omega
theorem Tryz.drewN_heap (w : World) : ∀ n, (w.drewN n).heap = w.heap
  | 0 => rfl
  | n + 1 => Tryz.drewN_heap w n
theorem Kept.putRow {X : List Nat} {a w : World} {b o : Nat} (h : Kept X a w) (hb : a.heap.size ≤ b ∨ b ∈ X) (d : Array UInt8) : Kept X a (putRow encB w b o d) :=
  ⟨h.os, h.tape, h.output, by rw [size_putRow]; exact h.size, fun k hk hx => by
    rw [← h.block k hk hx]
    simp only [Sort.putRow, mapBlock, Array.getElem?_modify]
    rw [if_neg (by rintro rfl; rcases hb with hb | hb; omega; exact hx hb)]⟩
end Go.Proofs.YtfkecmlmnhbmoaaGreatDoor
namespace Go.Proofs.YtfkecmlmnhbmoaaGreatDoor
open Go.RowKit Go.Sort
end Go.Proofs.YtfkecmlmnhbmoaaGreatDoor
namespace Go.Proofs.YtfkecmlmnhbmoaaGreatDoor
open Go.RowKit Go.Sort
/-- A row of bytes that the call has made since a0. -/
structure Own (a0 w : World) (v : Value) (bs : List Int) : Prop where
  row : w.ownsRow a0.heap.size 5 1 v bs.length (bs.map (Value.int .u8))
  kept : Kept [] a0 w
theorem Own.alloc {a0 w : World} {v : Value} {bs : List Int} (h : Own a0 w v bs) (o : Obj) : Own a0 (w.alloc o) v bs := ⟨h.row.alloc o, h.kept.alloc o⟩
theorem Tryz.info5 : (Tryz.prog.info? 5).map (fun i => (i.zero, i.size, i.bytes)) = some (some (.int .u8 0), 1, 1) := by kernel_rfl
def AllD (l : List Int) : Prop := ∀ c ∈ l, 48 ≤ c ∧ c ≤ 57
def sgn (neg : Bool) : List Int := if neg then [45] else []
/-- A sign and L digits. -/
def IntP (neg : Bool) (L : Nat) (bs : List Int) : Prop := ∃ ds, bs = sgn neg ++ ds ∧ AllD ds ∧ ds.length = L
/-- .. a point and j digits. -/
def FracP (neg : Bool) (L j : Nat) (bs : List Int) : Prop := ∃ ds fs, bs = sgn neg ++ ds ++ 46 :: fs ∧ AllD ds ∧ ds.length = L ∧ AllD fs ∧ fs.length = j
theorem AllD.snoc {l : List Int} (h : AllD l) {c : Int} (h1 : 48 ≤ c) (h2 : c ≤ 57) : AllD (l ++ [c]) := fun x hx => by
  rcases List.mem_append.1 hx with hx | hx
  · exact h x hx
  · simp at hx; subst hx; exact ⟨h1, h2⟩
theorem IntP.snoc {neg : Bool} {L : Nat} {bs : List Int} (h : IntP neg L bs) {c : Int} (h1 : 48 ≤ c) (h2 : c ≤ 57) : IntP neg (L + 1) (bs ++ [c]) := by
  obtain ⟨ds, rfl, hd, rfl⟩ := h
  exact ⟨ds ++ [c], by simp, hd.snoc h1 h2, by simp⟩
theorem FracP.snoc {neg : Bool} {L j : Nat} {bs : List Int} (h : FracP neg L j bs) {c : Int} (h1 : 48 ≤ c) (h2 : c ≤ 57) : FracP neg L (j + 1) (bs ++ [c]) := by
  obtain ⟨ds, fs, rfl, hd, rfl, hf, rfl⟩ := h
  exact ⟨ds, fs ++ [c], by simp, hd, rfl, hf.snoc h1 h2, by simp⟩
theorem IntP.len {neg : Bool} {L : Nat} {bs : List Int} (h : IntP neg L bs) : bs.length ≤ L + 1 := by
  obtain ⟨ds, rfl, _, rfl⟩ := h; cases neg <;> simp [sgn]
theorem FracP.len {neg : Bool} {L j : Nat} {bs : List Int} (h : FracP neg L j bs) : bs.length ≤ L + j + 2 := by
  obtain ⟨ds, fs, rfl, _, rfl, _, rfl⟩ := h; cases neg <;> simp [sgn] <;> omega
end Go.Proofs.YtfkecmlmnhbmoaaGreatDoor
