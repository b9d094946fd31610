import Derived.Test.YtfkecmlmnhbmoaaGreatDoorFk21
import Derived.Test.YtfkecmlmnhbmoaaGreatDoorFk04
import Derived.RegionTactic
namespace Go.Proofs.YtfkecmlmnhbmoaaGreatDoor
open Go.RowKit
/-- What the reals' functions want of the program's tables. -/
structure Tb (N : Nat) (w : World) : Prop where
  tabs : Tabs N w
  pow : Pow N w
  powt : PowT N w
  cheat : Cheat N w
theorem Tb.kept {N : Nat} {w w' : World} {X : List Nat} (h : Tb N w) (hk : Kept X w w') (hN : N ≤ w.heap.size) (hX : ∀ x ∈ X, N ≤ x) : Tb N w' :=
  ⟨h.tabs.kept hk hN hX, h.pow.kept hk hN hX, h.powt.kept hk hN hX, h.cheat.kept hk hN hX h.tabs.low⟩
theorem ext_all (s : ByteArray) : s.extract 0 s.size = s := by
  apply ba_ext; simp
end Go.Proofs.YtfkecmlmnhbmoaaGreatDoor
namespace Go.Proofs.YtfkecmlmnhbmoaaGreatDoor
open Go.RowKit
theorem subOk : BinOp.sub = .add ∨ BinOp.sub = .sub ∨ BinOp.sub = .mul ∨ BinOp.sub = .quo := .inr (.inl rfl)
end Go.Proofs.YtfkecmlmnhbmoaaGreatDoor
namespace Go.Proofs.YtfkecmlmnhbmoaaGreatDoor
open Go.RowKit
/-- One byte more behind a row of bytes of the call's own; every block of another kind stays. -/
theorem appB2 {ops : Array Oper} {rest : List Oper} {o : Oper} {a : Act} {Q : Exit → Act → World → Prop} (hgd : o.guard = none) (s x : Operand)
    (ho : o.op = .call { callee := .builtin .append, args := #[s, x], argTypes := #[105, 105] }) {a0 W : World} {v : Value} {bs : List Int} {c : Int} {t : TypeId} (hown : Own a0 W v bs) (hs : a.eval s = v)
    {g : Nat} (hx : a.eval x = .slice (some ⟨g, 0, none⟩) 1 1) (hgW : g = W.heap.size) (hlen : bs.length ≤ 140737488355000)
    (h : ∀ v' w', Own a0 w' v' (bs ++ [c]) → (∀ (B : Nat) (cs : Array Value) (t : Nat) (f : Nat × Nat), W.heap[B]? = some (.cells cs t f) → t ≠ 5 → w'.heap[B]? = some (.cells cs t f)) → wpList Tryz.prog ops Q rest (a.put o.dst v') w') :
    wpList Tryz.prog ops Q (o :: rest) a (W.alloc (.cells #[.int .u8 c] t)) := by
  subst hgW
  obtain ⟨i0, hi, hz0, hz1, hz2⟩ := info_parts Tryz.info5
  refine wpList_append_own _ hgd s x 105 ho a0.heap.size 5 i0 (.int .u8 0) 1 1 Tryz.underlying105 hi hz0 hz1 hz2 rfl (by decide) v bs.length _ hs (hown.row.alloc _) ⟨W.heap.size, 0, none⟩ 1 1 [.int .u8 c] hx rfl ?_ ?_ ?_ ?_ ?_ ?_
  · exact cells_new_at _ _ _ _ rfl
  · intro u hu; simp at hu; subst hu; rfl
  · unfold maxLen; omega
  · omega
  · have := hown.kept.size; simp; omega
  · intro v' w' hown' hg _
    have hne : ∀ k, k < W.heap.size → some k ≠ v.ownBlock → w'.heap[k]? = W.heap[k]? := fun k hk hn => by
      rw [hg.block k (by simp; omega) hn, Below.heap_alloc _ _ _ hk]
    refine h v' w' ⟨by simpa using hown', ?_⟩ fun B cs t f hr ht => ?_
    · refine ⟨hg.os.trans hown.kept.os, hg.tape.trans hown.kept.tape, hg.output.trans hown.kept.output, ?_, fun k hk hx => ?_⟩
      · have h1 := hown.kept.size; have h2 := hg.size; simp at h2; omega
      · have h1 := hown.kept.size
        rw [hne k (by omega) (fun e => by have := (hown.row.lt k e.symm).1; omega)]
        exact hown.kept.block k hk hx
    · refine (hne B (lt_of_block hr) fun e => ?_).trans hr
      rcases hown.row.2 with ⟨rfl, _⟩ | ⟨g, cap, cur, rfl, _, hh, _⟩
      · cases e
      · simp only [Value.ownBlock, Option.some.injEq] at e
        subst e
        rw [hr] at hh
        simp only [Option.some.injEq, Obj.cells.injEq] at hh
        exact ht hh.2.1
set_option maxHeartbeats 400000 in
theorem digit (c : Int) (w : World) (h1 : 0 ≤ c) (h2 : c ≤ 255) : Calls Tryz.prog 22 #[.int .u8 c] w fun e w' => e = .returned (.bool (decide (48 ≤ c ∧ c ≤ 57))) ∧ w = w' := by
  by_cases h : 48 ≤ c
  · by_cases h3 : c ≤ 57
    · have hd : decide (48 ≤ c ∧ c ≤ 57) = true := by simp; omega
      rw [hd]
      go_enter Tryz.func22, Tryz.ntmps22
      go_wp2_with fail
      go_ret
      first | exact ⟨by simp, rfl⟩ | exact ⟨by simp; omega, rfl⟩
    · have hd : decide (48 ≤ c ∧ c ≤ 57) = false := by simp; omega
      rw [hd]
      go_enter Tryz.func22, Tryz.ntmps22
      go_wp2_with fail
      go_ret
      first | exact ⟨by simp, rfl⟩ | exact ⟨by simp; omega, rfl⟩
  · have hd : decide (48 ≤ c ∧ c ≤ 57) = false := by simp; omega
    rw [hd]
    go_enter Tryz.func22, Tryz.ntmps22
    go_wp2_with fail
    go_ret
    first | exact ⟨by simp, rfl⟩ | exact ⟨by simp; omega, rfl⟩
theorem digit_no (c : Int) (w : World) (h1 : 0 ≤ c) (h2 : c ≤ 255) (h : c < 48 ∨ 57 < c) : Calls Tryz.prog 22 #[.int .u8 c] w fun e w' => e = .returned (.bool false) ∧ w = w' := by
  have hd : decide (48 ≤ c ∧ c ≤ 57) = false := by simp; omega
  have := digit c w h1 h2
  rw [hd] at this
  exact this
def Alnum (c : Nat) : Prop := (48 ≤ c ∧ c ≤ 57) ∨ (97 ≤ c ∧ c ≤ 122) ∨ (65 ≤ c ∧ c ≤ 90)
structure Simp (s : ByteArray) : Prop where
  lo : 1 ≤ s.size
  hi : s.size ≤ 100
  ch : ∀ i (h : i < s.size), Alnum (s[i]'h).toNat
def SimpR (s : ByteArray) (e : Ending) : Prop := ∃ b : Bool, e = .returned (.bool b) ∧ (b = true → Simp s)
theorem emp_size (s : ByteArray) (h : s.toList.isEmpty = false) : 1 ≤ s.size := by
  rw [ByteArray.toList_eq] at h
  have : s.data.toList ≠ [] := by intro e; rw [e] at h; cases h
  have h2 : s.data.toList.length ≠ 0 := fun e => this (List.length_eq_zero_iff.1 e)
  have h3 : s.size = s.data.toList.length := by show s.data.size = _; simp
  omega
set_option maxHeartbeats 4000000 in
theorem simplew (s : ByteArray) (w : World) (hs : s.size ≤ 140737488355000) : Calls Tryz.prog 9 #[.string s] w fun e w' => SimpR s e ∧ w = w' := by
  go_enter Tryz.func9, Tryz.ntmps9
  go_wp2_with fail
  go_loop [7] (fun vi => ∃ k : Nat, k ≤ s.size ∧ vi = .int .i64 k ∧ ∀ j (h : j < s.size), j < k → Alnum (s[j]'h).toNat) (fun vi => s.size - (intOf vi).toNat)
  case atStart => exact ⟨0, by omega, rfl, fun j h hj => by omega⟩
  case round =>
    obtain ⟨k, hk, rfl, hal⟩ := hrel
    have HAL := Lib.hid hal; clear hal
    by_cases hlt : k < s.size
    · have hc := (s[k]'hlt).toNat_lt
      by_cases ha : Alnum (s[k]'hlt).toNat
      · have HA := Lib.hid ha
        rcases ha with ⟨a1, a2⟩ | ⟨a1, a2⟩ | ⟨a1, a2⟩
        all_goals
          go_wp2_with (go_at_call 22; refine (digit _ _ (by omega) (by omega)).mono ?_; rintro e w' ⟨rfl, rfl⟩)
          exact ⟨⟨k + 1, by omega, by go_num, fun j h hj => by
            by_cases e : j = k
            · subst e; exact HA.out
            · exact HAL.out j h (by omega)⟩, by simp [intOf]; omega⟩
      · have hr : (s[k]'hlt).toNat < 48 ∨ (57 < (s[k]'hlt).toNat ∧ (s[k]'hlt).toNat < 65) ∨ (90 < (s[k]'hlt).toNat ∧ (s[k]'hlt).toNat < 97) ∨ 122 < (s[k]'hlt).toNat := by unfold Alnum at ha; omega
        clear ha
        rcases hr with a1 | ⟨a1, a2⟩ | ⟨a1, a2⟩ | a1
        all_goals
          go_wp2_with (go_at_call 22; refine (digit_no _ _ (by omega) (by omega) (by omega)).mono ?_; rintro e w' ⟨rfl, rfl⟩)
          go_ret
          exact ⟨⟨_, rfl, fun h => by cases h⟩, rfl⟩
    · have hkk : k = s.size := by omega
      have HK := Lib.hid hkk; clear hkk
      go_wp2_with fail
      · go_ret
        exact ⟨⟨_, rfl, fun h => by cases h⟩, rfl⟩
      · go_ret
        exact ⟨⟨_, rfl, fun h => by
          simp only [Bool.and_eq_true, Bool.not_eq_true', decide_eq_true_eq] at h
          exact ⟨emp_size s h.1, by omega, fun i hi => HAL.out i hi (by have := HK.out; omega)⟩⟩, rfl⟩
end Go.Proofs.YtfkecmlmnhbmoaaGreatDoor
namespace Go.Proofs.YtfkecmlmnhbmoaaGreatDoor
open Go.RowKit
/-- A reader in the block R: its text, and how far it is. -/
def Rdr (w : World) (R : Nat) (s : ByteArray) (t : Nat) : Prop := ∃ (bad deep : Int) (odd ends : Bool), w.heap[R]? = some (.cells #[.string s, .int .i64 (t : Nat), .int .i64 bad, .int .i64 deep, .bool odd, .bool ends] 132 (0, 0))
section
variable {w : World} {R : Nat} {s : ByteArray} {t : Nat}
theorem Rdr.lt (h : Rdr w R s t) : R < w.heap.size := by obtain ⟨_, _, _, _, h⟩ := h; exact lt_of_block h
theorem Rdr.cells (h : Rdr w R s t) : w.cell? ⟨R, 0, none⟩ = some (.string s) ∧ w.cell? ⟨R, 1, none⟩ = some (.int .i64 (t : Nat)) ∧ (∃ b : Int, w.cell? ⟨R, 2, none⟩ = some (.int .i64 b)) ∧ (∃ b : Bool, w.cell? ⟨R, 4, none⟩ = some (.bool b)) ∧ (∃ b : Bool, w.cell? ⟨R, 5, none⟩ = some (.bool b)) ∧ ∀ o, w.frozen? ⟨R, o, none⟩ = false := by
  obtain ⟨bad, deep, odd, ends, h⟩ := h
  exact ⟨by simp [World.cell?, h], by simp [World.cell?, h], ⟨bad, by simp [World.cell?, h]⟩, ⟨odd, by simp [World.cell?, h]⟩, ⟨ends, by simp [World.cell?, h]⟩, fun o => by simp [World.frozen?, h]⟩
theorem Rdr.c0 (h : Rdr w R s t) : w.cell? ⟨R, 0, none⟩ = some (.string s) := h.cells.1
theorem Rdr.c1 (h : Rdr w R s t) : w.cell? ⟨R, 1, none⟩ = some (.int .i64 (t : Nat)) := h.cells.2.1
theorem Rdr.fr (h : Rdr w R s t) : ∀ o, w.frozen? ⟨R, o, none⟩ = false := h.cells.2.2.2.2.2
theorem Rdr.setAt (h : Rdr w R s t) (t' : Nat) : Rdr (w.setCell ⟨R, 1, none⟩ (.int .i64 (t' : Nat))) R s t' := by
  obtain ⟨bad, deep, odd, ends, h⟩ := h
  exact ⟨bad, deep, odd, ends, by rw [block_set h]; simp⟩
theorem Rdr.setAt' (h : Rdr w R s t) (t' : Nat) (x : Int) (e : x = t') : Rdr (w.setCell ⟨R, 1, none⟩ (.int .i64 x)) R s t' := by subst e; exact h.setAt t'
theorem Rdr.setBad (h : Rdr w R s t) (b : Int) : Rdr (w.setCell ⟨R, 2, none⟩ (.int .i64 b)) R s t := by
  obtain ⟨bad, deep, odd, ends, h⟩ := h
  exact ⟨b, deep, odd, ends, by rw [block_set h]; simp⟩
theorem Rdr.setOdd (h : Rdr w R s t) (b : Bool) : Rdr (w.setCell ⟨R, 4, none⟩ (.bool b)) R s t := by
  obtain ⟨bad, deep, odd, ends, h⟩ := h
  exact ⟨bad, deep, b, ends, by rw [block_set h]; simp⟩
theorem Rdr.setEnds (h : Rdr w R s t) (b : Bool) : Rdr (w.setCell ⟨R, 5, none⟩ (.bool b)) R s t := by
  obtain ⟨bad, deep, odd, ends, h⟩ := h
  exact ⟨bad, deep, odd, b, by rw [block_set h]; simp⟩
theorem Rdr.same {w' : World} (h : Rdr w R s t) (e : w'.heap[R]? = w.heap[R]?) : Rdr w' R s t := by
  obtain ⟨bad, deep, odd, ends, h⟩ := h
  exact ⟨bad, deep, odd, ends, e.trans h⟩
theorem Rdr.drewN (h : Rdr w R s t) (n : Nat) : Rdr (w.drewN n) R s t := h.same (by rw [Tryz.drewN_heap])
end
/-- fail: something is noted, or not. -/
def FailR (e : Ending) : Prop := ∃ v, e = .returned v
theorem wrap8 (x : Int) : 0 ≤ IntKind.u8.wrap x ∧ IntKind.u8.wrap x ≤ 255 := by rw [IntKind.wrap_u8]; omega
def EscR (e : Ending) : Prop := ∃ (c : Int) (b : Bool), 0 ≤ c ∧ c ≤ 255 ∧ e = .returned (.tuple #[.int .u8 c, .bool b])
end Go.Proofs.YtfkecmlmnhbmoaaGreatDoor
namespace Go.Proofs.YtfkecmlmnhbmoaaGreatDoor
open Go.RowKit
theorem Rdr.keep {W w' : World} {R : Nat} {s : ByteArray} {t : Nat} (h : Rdr W R s t) (k : ∀ (B : Nat) (cs : Array Value) (t : Nat) (f : Nat × Nat), W.heap[B]? = some (.cells cs t f) → t ≠ 5 → w'.heap[B]? = some (.cells cs t f)) : Rdr w' R s t := by
  obtain ⟨bad, deep, odd, ends, h⟩ := h
  exact ⟨bad, deep, odd, ends, k _ _ _ _ h (by decide)⟩
theorem Own.rdr {a0 w w' : World} {v : Value} {bs : List Int} {R t : Nat} {s : ByteArray} (h : Own a0 w v bs) (hk : Kept [R] w w') (hR : Rdr w R s t) (h0 : a0.heap.size ≤ R) : Own a0 w' v bs := by
  obtain ⟨bad, deep, odd, ends, hb⟩ := hR
  exact h.off hk hb (by decide) h0
theorem own_nil {a0 w : World} (h : Kept [] a0 w) : Own a0 w (.slice none 0 0) [] := ⟨⟨rfl, Or.inl ⟨rfl, rfl⟩⟩, h⟩
theorem conv_own {a0 W : World} {v : Value} {bs : List Int} (h : Own a0 W v bs) : (convert 105 9 v).run Tryz.prog W = .ok (.string (strOfNums bs)) W := by
  rcases h.row.2 with ⟨rfl, hl⟩ | ⟨g, cap, cur, rfl, _⟩
  · have : bs = [] := by simpa using hl
    subst this
    exact run_convert_bytes_nil W 105 5 Tryz.underlying105 Tryz.underlying5 0 0 9 Tryz.underlying9
  · exact run_convert_bytes_arg (P := Tryz.prog) W 105 5 Tryz.underlying105 Tryz.underlying5 g 0 bs.length cap bs rfl (fun i hi => by
      have := h.row.cells (g := g) rfl i (.int .u8 (bs.getD i 0)) (by simp [List.getD, List.getElem?_eq_getElem hi])
      rw [Addr.add_lit] at this
      exact this) 9 Tryz.underlying9
def LitR (s : ByteArray) (e : Ending) : Prop := ∃ str : ByteArray, e = .returned (.string str) ∧ str.size + 2 ≤ s.size
theorem rdr_meas {w1 w2 : World} {R t1 t2 : Nat} {s : ByteArray} (h1 : Rdr w1 R s t1) (h2 : Rdr w2 R s t2) (h : t2 < t1) (h3 : t1 ≤ s.size) :
    s.size - (intOf ((w1.cell? ⟨R, 1, none⟩).getD default)).toNat < s.size - (intOf ((w2.cell? ⟨R, 1, none⟩).getD default)).toNat := by
  rw [h1.cells.2.1, h2.cells.2.1]
  simp [intOf]; omega
end Go.Proofs.YtfkecmlmnhbmoaaGreatDoor
namespace Go.Proofs.YtfkecmlmnhbmoaaGreatDoor
open Go.RowKit
def o1 (b : Bool) : Nat := if b then 1 else 0
theorem wrap_size (a b : UInt8) (s : ByteArray) : ((⟨#[a]⟩ : ByteArray) ++ s ++ ⟨#[b]⟩).size = s.size + 2 := by
  rw [ByteArray.size_append, ByteArray.size_append]
  show 1 + s.size + 1 = s.size + 2
  omega
theorem wrap_first (a b : UInt8) (s : ByteArray) (h : 0 < ((⟨#[a]⟩ : ByteArray) ++ s ++ ⟨#[b]⟩).size) : ((⟨#[a]⟩ : ByteArray) ++ s ++ ⟨#[b]⟩)[0]'h = a := by
  rw [ByteArray.getElem_append_left (by rw [ByteArray.size_append]; show 0 < 1 + s.size; omega), ByteArray.getElem_append_left (by show 0 < 1; omega)]
  rfl
end Go.Proofs.YtfkecmlmnhbmoaaGreatDoor
