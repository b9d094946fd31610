import Derived.Test.YtfkecmlmnhbmoaaGreatDoorFk13
import Derived.Test.YtfkecmlmnhbmoaaGreatDoorFk08
import Derived.Lib.AppendIntMem
namespace Go.Proofs.YtfkecmlmnhbmoaaGreatDoor
open Go.RowKit
theorem c147 (b : Nat) (w : World) : (callFunc 147 #[.float .f64 b]).run Tryz.prog w = .ok (.value (.int .u64 b)) w := by
  rw [run_callFunc_extern Tryz.func147 (by kernel_rfl) (by kernel_rfl) (by kernel_rfl) (e := Extern.MathFloatBits.float64bits) (by kernel_rfl)]
  rfl
theorem c189 (b : Int) (w : World) : (callFunc 189 #[.int .u64 b]).run Tryz.prog w = .ok (.value (.float .f64 b.toNat)) w := by
  rw [run_callFunc_extern Tryz.func189 (by kernel_rfl) (by kernel_rfl) (by kernel_rfl) (e := Extern.MathFloatBits.float64frombits) (by kernel_rfl)]
  rfl
theorem Own.drewN {a0 w : World} {v : Value} {bs : List Int} (h : Own a0 w v bs) (n : Nat) : Own a0 (w.drewN n) v bs := ⟨by
  have := h.row
  unfold World.ownsRow at this ⊢
  rw [Tryz.drewN_heap]
  exact this, h.kept.drewN n⟩
theorem Own.ext {a0 w w' : World} {v : Value} {bs : List Int} (h : Own a0 w v bs) (hk : Kept [] w w') : Own a0 w' v bs := ⟨by
  have h1 := h.row
  refine ⟨h1.1, ?_⟩
  rcases h1.2 with h2 | ⟨g, cap, cur, h2, h3, h4, h5⟩
  · exact .inl h2
  · exact .inr ⟨g, cap, cur, h2, h3, (hk.block g (lt_of_block h4) (by simp)).trans h4, h5⟩, Kept.trans h.kept hk (fun _ h => h) (fun _ h _ => h)⟩
theorem holds24 {w : World} {C nd : Nat} (h : w.heap[C]? = some (.cells Lib.zeros24 156 (0, 0))) (hn : nd ≤ 24) : Sort.Holds encB w C 0 (Array.replicate nd (0 : UInt8)) := fun j hj => by
  have hj' : j < nd := by simpa using hj
  refine ⟨?_, by simp [World.frozen?, h]⟩
  have h1 : w.cell? ⟨C, 0 + j, none⟩ = Lib.zeros24[j]? := by simp [World.cell?, h]
  rw [h1, Lib.zeros24_at _ (by omega), getElem!_pos _ j hj]
  simp
theorem Own.off {a0 w w' : World} {v : Value} {bs : List Int} {C t : Nat} {cs : Array Value} (h : Own a0 w v bs) (hk : Kept [C] w w') (hC : w.heap[C]? = some (.cells cs t (0, 0))) (ht : t ≠ 5) (h0 : a0.heap.size ≤ C) : Own a0 w' v bs := ⟨by
  have h1 := h.row
  refine ⟨h1.1, ?_⟩
  rcases h1.2 with h2 | ⟨g, cap, cur, h2, h3, h4, h5⟩
  · exact .inl h2
  · refine .inr ⟨g, cap, cur, h2, h3, (hk.block g (lt_of_block h4) fun hm => ?_).trans h4, h5⟩
    rw [List.mem_singleton] at hm
    subst hm
    rw [hC] at h4
    simp only [Option.some.injEq, Obj.cells.injEq] at h4
    exact ht h4.2.1, Kept.trans h.kept hk (fun _ h => h) (fun x hx hl => by rw [List.mem_singleton] at hx; omega)⟩
def isZ : Option Value → Bool
  | some (.int .u8 n) => n == 0
  | _ => false
theorem isZ_eq {o : Option Value} (h : isZ o = true) : o = some (.int .u8 0) := by
  unfold isZ at h
  split at h
  · rename_i n; simp at h; rw [h]
  · cases h
theorem dec0 {w : World} {C : Nat} (h : w.heap[C]? = some (.cells Tryz.zeroCells248 248 (0, 0))) : Dec w C (fun _ => 0) 0 0 false false := by
  have hs : Tryz.zeroCells248.size = 804 := by kernel_rfl
  have h0 : ∀ i, i < 800 → Tryz.zeroCells248[i]? = some (.int .u8 0) := by
    have : ((List.range 800).all fun i => isZ Tryz.zeroCells248[i]?) = true := by kernel_rfl
    intro i hi
    exact isZ_eq (List.all_eq_true.1 this i (List.mem_range.2 hi))
  have k : ∀ o, w.cell? ⟨C, o, none⟩ = Tryz.zeroCells248[o]? := fun o => by simp [World.cell?, h]
  have h1 : Tryz.zeroCells248[800]? = some (.int .i64 0) := by kernel_rfl
  have h2 : Tryz.zeroCells248[801]? = some (.int .i64 0) := by kernel_rfl
  have h3 : Tryz.zeroCells248[802]? = some (.bool false) := by kernel_rfl
  have h4 : Tryz.zeroCells248[803]? = some (.bool false) := by kernel_rfl
  exact ⟨⟨_, h, hs⟩, fun i hi => (k i).trans (h0 i hi), (k _).trans h1, (k _).trans h2, (k _).trans h3, (k _).trans h4⟩
end Go.Proofs.YtfkecmlmnhbmoaaGreatDoor
