import Derived.Test.YtfkecmlmnhbmoaaGreatDoorDs07
import Derived.Lib.ItoaLen
namespace Go.Proofs.YtfkecmlmnhbmoaaGreatDoor
open Go.RowKit Go.Sort
abbrev encB : UInt8 → Value := fun b => Value.int .u8 (b.toNat : Int)
/-- The first n cells of a block are digits. -/
structure Digs (w : World) (B n : Nat) : Prop where
  row : ∃ cs t, w.heap[B]? = some (.cells cs t (0, 0)) ∧ t ≠ 5
  dig : ∀ i, i < n → ∃ c : Int, 48 ≤ c ∧ c ≤ 57 ∧ w.cell? ⟨B, i, none⟩ = some (.int .u8 c)
theorem Digs.same {w w' : World} {B n : Nat} (h : Digs w B n) (e : w'.heap[B]? = w.heap[B]?) : Digs w' B n :=
  ⟨by rw [e]; exact h.row, fun i hi => by
    obtain ⟨c, c1, c2, hc⟩ := h.dig i hi
    exact ⟨c, c1, c2, (World.cell?_of_block (w := w) e).trans hc⟩⟩
theorem dg_digit (u k : Nat) : 48 ≤ (Lib.dg u k).toNat ∧ (Lib.dg u k).toNat ≤ 57 := by
  unfold Lib.dg
  have : (UInt8.ofNat (48 + u / 10 ^ k % 10)).toNat = 48 + u / 10 ^ k % 10 := by rw [UInt8.toNat_ofNat']; omega
  rw [this]; omega
theorem Tryz.drewN_heap (w : World) : ∀ n, (w.drewN n).heap = w.heap
  | 0 => rfl
  | n + 1 => Tryz.drewN_heap w n
theorem Kept.putRow {X : List Nat} {a w : World} {b o : Nat} (h : Kept X a w) (hb : a.heap.size ≤ b ∨ b ∈ X) (d : Array UInt8) : Kept X a (putRow encB w b o d) :=
  ⟨h.os, h.tape, h.output, by rw [size_putRow]; exact h.size, fun k hk hx => by
    rw [← h.block k hk hx]
    simp only [Sort.putRow, mapBlock, Array.getElem?_modify]
    rw [if_neg (by rintro rfl; rcases hb with hb | hb; omega; exact hx hb)]⟩
theorem numdig (d : Nat) (w : World) (N : Nat) (ht : Tabs N w) (h1 : 1 ≤ d) (h2 : d < 18446744073709551616) :
    Calls Tryz.prog 91 #[.int .u64 d] w fun en w' => (∃ nd : Nat, 1 ≤ nd ∧ nd ≤ 20 ∧ d < 10 ^ nd ∧ en = .returned (.int .i64 nd)) ∧ w' = w :=
  (Tryz.internal_strconv_numDigits d h1 h2 w ht.tab).mono fun _e _w' ⟨h, k⟩ => ⟨⟨_, Lib.nDigits_pos d, Lib.nDigits_le20 d h2, Lib.lt_pow_nDigits d, h⟩, k⟩
set_option maxHeartbeats 800000 in
theorem setdigits (B d nd : Nat) (p : Int) (w : World) (h1 : 1 ≤ nd) (h20 : nd ≤ 20) (hd : d < 10 ^ nd) (hd2 : d < 18446744073709551616) (hp : -4000 ≤ p) (hp2 : p ≤ 4000)
    (hH : Holds encB w B 0 (Array.replicate nd (0 : UInt8))) (cs : Array Value) (hB : w.heap[B]? = some (.cells cs 156 (0, 0))) :
    Calls Tryz.prog 152 #[.slice (some ⟨B, 0, none⟩) 24 24, .int .u64 d, .int .i64 p, .int .i64 nd] w fun en w' =>
      (∃ k : Nat, k ≤ nd ∧ en = .returned (.tuple #[.int .i64 (nd + p), .int .i64 k]) ∧ Digs w' B k) ∧ Kept [B] w w' := by
  have hf := Tryz.internal_strconv_formatBase10 B 0 24 d (Array.replicate nd 0) w hH (by rw [Array.size_replicate]; exact hd) hd2 (by rw [Array.size_replicate]; omega)
  rw [Array.size_replicate] at hf
  have HF := Lib.hid hf; clear hf
  go_enter Tryz.func152, Tryz.ntmps152
  go_wp2_with fail
  refine HF.out.mono ?_
  rintro e w' ⟨rfl, n, v', dk, rfl, hI⟩
  have hc : ∀ j, j < nd → ((putRow encB w B 0 dk).drewN n).cell? ⟨B, j, none⟩ = some (.int .u8 ((Lib.dg d (nd - 1 - j)).toNat : Int)) := fun j hj => by
    have := cell?_putRow encB w B 0 _ dk hH (by rw [hI.size, Array.size_replicate]) j (by rw [hI.size]; exact hj)
    rw [Nat.zero_add] at this
    rw [World.cell?_drewN, this]
    have e := hI.done j (by omega) hj
    rw [e]
  have hk : Kept [B] w ((putRow encB w B 0 dk).drewN n) := ((Kept.refl [B] w).putRow (.inr (List.mem_singleton.2 rfl)) dk).drewN n
  have hr : ∃ cs t, ((putRow encB w B 0 dk).drewN n).heap[B]? = some (.cells cs t (0, 0)) ∧ t ≠ 5 := by
    refine ⟨putCells encB 0 dk cs, 156, ?_, by decide⟩
    rw [Tryz.drewN_heap]
    simp [Sort.putRow, mapBlock, Array.getElem?_modify, hB, onCells]
  generalize (putRow encB w B 0 dk).drewN n = w1 at hc hk hr ⊢
  have HC := Lib.hid hc; have HK := Lib.hid hk; clear hc hk HF hH hI
  go_wp2_with fail
  go_loop [3] (fun t => ∃ k : Nat, k ≤ nd ∧ t = .int .i64 k) (fun t => (intOf t).toNat)
  case atStart => exact ⟨nd, by omega, rfl⟩
  case round =>
    obtain ⟨k, hk, rfl⟩ := hrel
    by_cases hlt : 0 < k
    · obtain ⟨j, rfl⟩ : ∃ m, k = m + 1 := ⟨k - 1, by omega⟩
      have c := HC.out j (by omega)
      go_wp2_with fail
      · exact ⟨⟨j, by omega, rfl⟩, by simp [intOf]⟩
      · go_ret2
        exact ⟨⟨j + 1, by omega, rfl, hr, fun i hi => ⟨_, by have := dg_digit d (nd - 1 - i); omega, by have := dg_digit d (nd - 1 - i); omega, HC.out i (by omega)⟩⟩, HK.out⟩
    · obtain rfl : k = 0 := by omega
      go_wp2_with fail
      go_ret2
      exact ⟨⟨0, by omega, rfl, hr, fun i hi => by omega⟩, HK.out⟩
end Go.Proofs.YtfkecmlmnhbmoaaGreatDoor
namespace Go.Proofs.YtfkecmlmnhbmoaaGreatDoor
open Go.RowKit Go.Sort
set_option maxHeartbeats 1600000 in
theorem fixedw (m e n : Int) (w : World) (N : Nat) (ht : Tabs N w) (hN : N ≤ w.heap.size) (hm : U m) (he : -120 ≤ e) (he2 : e ≤ -17) (hn : 1 ≤ n) (hn2 : n ≤ 18) :
    Calls Tryz.prog 153 #[.int .u64 m, .int .i64 e, .int .i64 n, .int .i64 12, .int .u8 102] w fun en w' =>
      (∃ d p : Int, U d ∧ -12 ≤ p ∧ p ≤ 14 ∧ en = .returned (.tuple #[.int .u64 d, .int .i64 p])) ∧ Kept [] w w' := by
  have hq0 : -13 ≤ n - 1 - (e + 63) * 78913 / 262144 := by omega
  have hq1 : n - 1 - (e + 63) * 78913 / 262144 ≤ 60 := by omega
  have hU : U ((10 : Int) ^ n.toNat) := by
    have h1 : 10 ^ n.toNat ≤ 10 ^ 18 := Nat.pow_le_pow_right (by decide) (by omega)
    have e : ((10 : Int) ^ n.toNat) = ((10 ^ n.toNat : Nat) : Int) := by simp
    rw [e]
    generalize 10 ^ n.toNat = z at h1
    exact ⟨by omega, by omega⟩
  go_enter Tryz.func153, Tryz.ntmps153
  go_wp2_with fail
  refine (log10 _ _ (by omega) (by omega)).mono ?_
  rintro en w' ⟨rfl, rfl⟩
  generalize hqq : n - 1 - (e + 63) * 78913 / 262144 = q at hq0 hq1
  go_wp2_with fail
  refine (log2 _ _ (by omega) (by omega)).mono ?_
  rintro en w' ⟨rfl, rfl⟩
  go_wp2_with fail
  have ht1 := ht.kept ((Kept.refl [] w).alloc (.cells #[.int .u64 0, .int .u64 0, .int .i64 0] 294)) hN (by simp)
  refine (prescale _ e q _ _ _ _ _ N ht1 hN (heap_at rfl) (by omega) (by omega) (by omega) (by omega) (by omega) (by omega)).mono ?_
  rintro en w1 ⟨a, b, ha, hb, rfl, hB, hk⟩
  have hk1 : Kept [] w w1 := Kept.trans (Y := [w.heap.size]) (X := []) ((Kept.refl [] w).alloc _) hk (by simp) (by simp)
  have c0 : w1.cell? ⟨w.heap.size, 0, none⟩ = some (.int .u64 a) := by simp [World.cell?, hB]
  have c1 : w1.cell? ⟨w.heap.size, 1, none⟩ = some (.int .u64 b) := by simp [World.cell?, hB]
  have c2 : w1.cell? ⟨w.heap.size, 2, none⟩ = some (.int .i64 (-(e + q * 108853 / 32768 + 3))) := by simp [World.cell?, hB]
  have ht2 := ht.kept hk1 hN (by simp)
  have cn := ht2.pow n.toNat (by omega)
  have HB := Lib.hid hB; have HK := Lib.hid hk1; clear hB hk hk1 ht1
  go_wp2_with fail
  refine (uscale _ _ a b _ _ hm ha hb c0 c1 c2).mono ?_
  rintro en w' ⟨⟨u, ⟨u1, u2⟩, rfl⟩, n1, rfl⟩
  clear c0 c1 c2
  go_wp2_with fail
  refine (unmin _ _ hU).mono ?_
  rintro en w' ⟨⟨v, ⟨v1, v2⟩, rfl⟩, rfl⟩
  clear cn
  have hu : U u := ⟨u1, u2⟩
  have k1 : Kept [] w (w1.drewN n1) := HK.out.drewN n1
  generalize w1.drewN n1 = w2 at k1
  go_wp2_with fail
  refine (udiv _ _ hu).mono ?_
  rintro en w' ⟨⟨r, hr, rfl⟩, n2, rfl⟩
  have k2 := k1.drewN n2
  generalize w2.drewN n2 = w3 at k2
  have u1 := hr.lo; have u2 := hr.hi
  go_wp2_with fail
  all_goals
    go_loopw [11, 13] (fun p u wr => ∃ (k r : Int), -14 ≤ k ∧ k ≤ 60 ∧ U r ∧ p = .int .i64 k ∧ u = .int .u64 r ∧ Kept [] w wr) (fun p _ _ => (intOf p + 100).toNat)
    case atStart => exact ⟨_, _, by omega, by omega, by assumption, rfl, rfl, by assumption⟩
    case round =>
      obtain ⟨k, r, hk1, hk2, ⟨r1, r2⟩, rfl, rfl, hkr⟩ := hrel
      go_wp2_with fail
      · refine (udiv _ _ ⟨r1, r2⟩).mono ?_
        rintro en w' ⟨⟨r, hr, rfl⟩, n2, rfl⟩
        have u1 := hr.lo; have u2 := hr.hi
        go_wp2_with fail
        go_roundw
        case rel => exact ⟨k - 1, r, by omega, by omega, hr, rfl, rfl, hkr.drewN n2⟩
        case measure => simp [intOf]; omega
      · refine (rround _ _ ⟨r1, r2⟩).mono ?_
        rintro en w' ⟨⟨r, hr, rfl⟩, rfl⟩
        have u1 := hr.lo; have u2 := hr.hi
        go_wp2_with fail
        go_ret2
        exact ⟨⟨_, _, hr, by omega, by omega, rfl⟩, hkr⟩
end Go.Proofs.YtfkecmlmnhbmoaaGreatDoor
namespace Go.Proofs.YtfkecmlmnhbmoaaGreatDoor
open Go.RowKit Go.Sort
/-- A row of bytes that the call has made since a0. -/
structure Own (a0 w : World) (v : Value) (bs : List Int) : Prop where
  row : w.ownsRow a0.heap.size 5 1 v bs.length (bs.map (Value.int .u8))
  kept : Kept [] a0 w
theorem Own.alloc {a0 w : World} {v : Value} {bs : List Int} (h : Own a0 w v bs) (o : Obj) : Own a0 (w.alloc o) v bs := ⟨h.row.alloc o, h.kept.alloc o⟩
theorem Tryz.info5 : (Tryz.prog.info? 5).map (fun i => (i.zero, i.size, i.bytes)) = some (some (.int .u8 0), 1, 1) := by kernel_rfl
theorem appB {ops : Array Oper} {rest : List Oper} {o : Oper} {a : Act} {Q : Exit → Act → World → Prop} (hgd : o.guard = none) (s x : Operand)
    (ho : o.op = .call { callee := .builtin .append, args := #[s, x], argTypes := #[105, 105] }) {a0 W : World} {v : Value} {bs : List Int} {c : Int} {t : TypeId} (hown : Own a0 W v bs) (hs : a.eval s = v)
    (hx : a.eval x = .slice (some ⟨W.heap.size, 0, none⟩) 1 1) (hlen : bs.length ≤ 1000000)
    (h : ∀ v' w', Own a0 w' v' (bs ++ [c]) → (∀ B n, Digs W B n → Digs w' B n) → wpList Tryz.prog ops Q rest (a.put o.dst v') w') :
    wpList Tryz.prog ops Q (o :: rest) a (W.alloc (.cells #[.int .u8 c] t)) := by
  obtain ⟨i0, hi, hz0, hz1, hz2⟩ := info_parts Tryz.info5
  refine wpList_append_own _ hgd s x 105 ho a0.heap.size 5 i0 (.int .u8 0) 1 1 Tryz.underlying105 hi hz0 hz1 hz2 rfl (by decide) v bs.length _ hs (hown.row.alloc _) ⟨W.heap.size, 0, none⟩ 1 1 [.int .u8 c] hx rfl ?_ ?_ ?_ ?_ ?_ ?_
  · exact cells_new_at _ _ _ _ rfl
  · intro u hu; simp at hu; subst hu; rfl
  · unfold maxLen; omega
  · omega
  · have := hown.kept.size; simp; omega
  · intro v' w' hown' hg _
    have hne : ∀ k, k < W.heap.size → some k ≠ v.ownBlock → w'.heap[k]? = W.heap[k]? := fun k hk hn => by
      rw [hg.block k (by simp; omega) hn, Below.heap_alloc _ _ _ hk]
    refine h v' w' ⟨by simpa using hown', ?_⟩ fun B n hd => ?_
    · refine ⟨hg.os.trans hown.kept.os, hg.tape.trans hown.kept.tape, hg.output.trans hown.kept.output, ?_, fun k hk hx => ?_⟩
      · have h1 := hown.kept.size; have h2 := hg.size; simp at h2; omega
      · have h1 := hown.kept.size
        rw [hne k (by omega) (fun e => by have := (hown.row.lt k e.symm).1; omega)]
        exact hown.kept.block k hk hx
    · refine hd.same (hne B ?_ fun e => ?_)
      · obtain ⟨cs, t, hr, _⟩ := hd.row
        exact lt_of_block hr
      · obtain ⟨cs, t, hr, ht⟩ := hd.row
        rcases hown.row.2 with ⟨rfl, _⟩ | ⟨g, cap, cur, rfl, _, hh, _⟩
        · cases e
        · simp only [Value.ownBlock, Option.some.injEq] at e
          subst e
          rw [hr] at hh
          simp only [Option.some.injEq, Obj.cells.injEq] at hh
          exact ht hh.2.1
def AllD (l : List Int) : Prop := ∀ c ∈ l, 48 ≤ c ∧ c ≤ 57
def sgn (neg : Bool) : List Int := if neg then [45] else []
/-- A sign and L digits. -/
def IntP (neg : Bool) (L : Nat) (bs : List Int) : Prop := ∃ ds, bs = sgn neg ++ ds ∧ AllD ds ∧ ds.length = L
/-- .. a point and j digits. -/
def FracP (neg : Bool) (L j : Nat) (bs : List Int) : Prop := ∃ ds fs, bs = sgn neg ++ ds ++ 46 :: fs ∧ AllD ds ∧ ds.length = L ∧ AllD fs ∧ fs.length = j
theorem AllD.snoc {l : List Int} (h : AllD l) {c : Int} (h1 : 48 ≤ c) (h2 : c ≤ 57) : AllD (l ++ [c]) := fun x hx => by
  rcases List.mem_append.1 hx with hx | hx
  · exact h x hx
  · simp at hx; subst hx; exact ⟨h1, h2⟩
theorem IntP.snoc {neg : Bool} {L : Nat} {bs : List Int} (h : IntP neg L bs) {c : Int} (h1 : 48 ≤ c) (h2 : c ≤ 57) : IntP neg (L + 1) (bs ++ [c]) := by
  obtain ⟨ds, rfl, hd, rfl⟩ := h
  exact ⟨ds ++ [c], by simp, hd.snoc h1 h2, by simp⟩
theorem IntP.point {neg : Bool} {L : Nat} {bs : List Int} (h : IntP neg L bs) : FracP neg L 0 (bs ++ [46]) := by
  obtain ⟨ds, rfl, hd, rfl⟩ := h
  exact ⟨ds, [], rfl, hd, rfl, (fun _ h => by cases h), rfl⟩
theorem FracP.snoc {neg : Bool} {L j : Nat} {bs : List Int} (h : FracP neg L j bs) {c : Int} (h1 : 48 ≤ c) (h2 : c ≤ 57) : FracP neg L (j + 1) (bs ++ [c]) := by
  obtain ⟨ds, fs, rfl, hd, rfl, hf, rfl⟩ := h
  exact ⟨ds, fs ++ [c], by simp, hd, rfl, hf.snoc h1 h2, by simp⟩
theorem IntP.len {neg : Bool} {L : Nat} {bs : List Int} (h : IntP neg L bs) : bs.length ≤ L + 1 := by
  obtain ⟨ds, rfl, _, rfl⟩ := h; cases neg <;> simp [sgn]
theorem FracP.len {neg : Bool} {L j : Nat} {bs : List Int} (h : FracP neg L j bs) : bs.length ≤ L + j + 2 := by
  obtain ⟨ds, fs, rfl, _, rfl, _, rfl⟩ := h; cases neg <;> simp [sgn] <;> omega
end Go.Proofs.YtfkecmlmnhbmoaaGreatDoor
