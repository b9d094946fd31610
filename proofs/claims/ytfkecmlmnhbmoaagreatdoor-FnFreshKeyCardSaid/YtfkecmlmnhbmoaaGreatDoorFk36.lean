import Derived.Test.YtfkecmlmnhbmoaaGreatDoorFk33
namespace Go.Proofs.YtfkecmlmnhbmoaaGreatDoor
open Go.RowKit Go.Sort
open Classical in
noncomputable def duF (r : Int) : Int := if h : U r then Classical.choose (udivF r h) else 0
theorem duF_u {r : Int} (h : U r) : U (duF r) := by unfold duF; rw [dif_pos h]; exact (Classical.choose_spec (udivF r h)).1
theorem duF_run {r : Int} (h : U r) (w : World) : Calls Tryz.prog 204 #[.int .u64 r, .int .u64 10] w fun e w' => e = .returned (.int .u64 (duF r)) ∧ ∃ n, w' = w.drewN n := by
  unfold duF; rw [dif_pos h]; exact (Classical.choose_spec (udivF r h)).2 w
noncomputable def fxF (s : Int × Int) : Option (Int × Int) := if 12 < s.1 then some (s.1 - 1, duF s.2) else none
theorem fx_ends (k r : Int) (h1 : -14 ≤ k) (h2 : k ≤ 60) (h3 : U r) : ∃ t : Int × Int, Tr fxF (k, r) t ∧ U t.2 ∧ -14 ≤ t.1 ∧ t.1 ≤ 12 := by
  obtain ⟨t, h4, ⟨h5, h6, _⟩, h7⟩ := Tr.ends (f := fxF) (fun s => (s.1 + 100).toNat) (fun s => U s.2 ∧ -14 ≤ s.1 ∧ s.1 ≤ 60) (fun s t hs e => by
    obtain ⟨a, b, c⟩ := hs
    unfold fxF at e
    split at e
    · cases e
      exact ⟨⟨duF_u a, by dsimp only; omega, by dsimp only; omega⟩, by dsimp only; omega⟩
    · cases e) _ (k, r) (Nat.le_refl _) ⟨h3, h1, h2⟩
  refine ⟨t, h4, h5, h6, ?_⟩
  unfold fxF at h7
  split at h7
  · cases h7
  · omega
set_option maxHeartbeats 1600000 in
theorem fixedwF (m e n : Int) (W0 : World) (N : Nat) (ht : Tabs N W0) (hN : N ≤ W0.heap.size) (hm : U m) (he : -120 ≤ e) (he2 : e ≤ -17) (hn : 1 ≤ n) (hn2 : n ≤ 18) :
    ∃ d p : Int, (U d ∧ -12 ≤ p ∧ p ≤ 14) ∧ ∀ w, Kept [] W0 w → Calls Tryz.prog 153 #[.int .u64 m, .int .i64 e, .int .i64 n, .int .i64 12, .int .u8 102] w fun en w' =>
      en = .returned (.tuple #[.int .u64 d, .int .i64 p]) ∧ Kept [] w w' := by
  have hq0 : -13 ≤ n - 1 - (e + 63) * 78913 / 262144 := by omega
  have hq1 : n - 1 - (e + 63) * 78913 / 262144 ≤ 60 := by omega
  have hU : U ((10 : Int) ^ n.toNat) := by
    have h1 : 10 ^ n.toNat ≤ 10 ^ 18 := Nat.pow_le_pow_right (by decide) (by omega)
    have e : ((10 : Int) ^ n.toNat) = ((10 ^ n.toNat : Nat) : Int) := by simp
    rw [e]
    generalize 10 ^ n.toNat = z at h1
    exact ⟨by omega, by omega⟩
  obtain ⟨q, hq⟩ : ∃ q, n - 1 - (e + 63) * 78913 / 262144 = q := ⟨_, rfl⟩
  rw [hq] at hq0 hq1
  obtain ⟨a, b, ⟨ha, hb⟩, hP⟩ := prescaleF e q (q * 108853 / 32768) W0 N ht hN (by omega) (by omega) (by omega) (by omega) (by omega) (by omega)
  obtain ⟨u, hu, hUU⟩ := uscaleF m a b (-(e + q * 108853 / 32768 + 3)) hm ha hb
  obtain ⟨v, ⟨v1, v2⟩, hV⟩ := unminF _ hU
  have HQ := Lib.hid hq; have HP := Lib.hid hP; have HU := Lib.hid hUU; have HV := Lib.hid hV; clear hq hP hUU hV
  obtain ⟨u1, u2⟩ := hu
  by_cases hvu : v ≤ u
  · have hdu := duF_u (r := u) ⟨u1, u2⟩
    obtain ⟨t, hT, ht2, ht3, ht4⟩ := fx_ends (q - 1) (duF u) (by omega) (by omega) hdu
    obtain ⟨d, hd, HR⟩ := rroundF t.2 ht2
    refine ⟨d, -t.1, ⟨hd, by omega, by omega⟩, fun w hkw => ?_⟩
    have HT := Lib.hid hT; have HRR := Lib.hid HR; clear hT HR
    have htw := hkw.tabs ht hN
    have hNw : N ≤ w.heap.size := Nat.le_trans hN hkw.size
    go_enter Tryz.func153, Tryz.ntmps153
    go_wp2_with fail
    refine (log10 _ _ (by omega) (by omega)).mono ?_
    rintro en w' ⟨rfl, rfl⟩
    have hqq := HQ.out
    go_wp2_with fail
    refine (log2 _ _ (by omega) (by omega)).mono ?_
    rintro en w' ⟨rfl, rfl⟩
    go_wp2_with fail
    refine (HP.out _ _ _ _ _ (hkw.alloc _) hNw (heap_at rfl)).mono ?_
    rintro en w1 ⟨rfl, hB, hk⟩
    have hk1 : Kept [] w w1 := Kept.trans (Y := [w.heap.size]) (X := []) ((Kept.refl [] w).alloc _) hk (by simp) (by simp)
    have c0 : w1.cell? ⟨w.heap.size, 0, none⟩ = some (.int .u64 a) := by simp [World.cell?, hB]
    have c1 : w1.cell? ⟨w.heap.size, 1, none⟩ = some (.int .u64 b) := by simp [World.cell?, hB]
    have c2 : w1.cell? ⟨w.heap.size, 2, none⟩ = some (.int .i64 (-(e + q * 108853 / 32768 + 3))) := by simp [World.cell?, hB]
    have ht2 := htw.kept hk1 hNw (by simp)
    have cn := ht2.pow n.toNat (by omega)
    have HB := Lib.hid hB; have HK := Lib.hid hk1; clear hB hk hk1
    go_wp2_with fail
    refine (HU.out _ _ c0 c1 c2).mono ?_
    rintro en w' ⟨rfl, n1, rfl⟩
    clear c0 c1 c2
    go_wp2_with fail
    refine (HV.out _).mono ?_
    rintro en w' ⟨rfl, rfl⟩
    clear cn
    have k1 : Kept [] w (w1.drewN n1) := HK.out.drewN n1
    generalize w1.drewN n1 = w2 at k1
    go_wp2_with fail
    refine (duF_run ⟨u1, u2⟩ _).mono ?_
    rintro en w' ⟨rfl, n2, rfl⟩
    have k2 := k1.drewN n2
    generalize w2.drewN n2 = w3 at k2
    obtain ⟨d1, d2⟩ := hdu
    go_wp2_with fail
    have hdu : U (duF u) := ⟨d1, d2⟩
    go_loopw [11, 13] (fun p u wr => ∃ (k r : Int), -14 ≤ k ∧ k ≤ 60 ∧ U r ∧ p = .int .i64 k ∧ u = .int .u64 r ∧ Kept [] w wr ∧ Tr fxF (k, r) t) (fun p _ _ => (intOf p + 100).toNat)
    case atStart => exact ⟨_, _, by omega, by omega, hdu, rfl, rfl, by assumption, HT.out⟩
    case round =>
      obtain ⟨k, r, hk1, hk2, ⟨r1, r2⟩, rfl, rfl, hkr, hT⟩ := hrel
      have HTT := Lib.hid hT; clear hT
      by_cases h12 : 12 < k
      · have hT2 := HTT.out.next (show fxF (k, r) = some (k - 1, duF r) from if_pos h12)
        have HT2 := Lib.hid hT2; clear hT2
        have hdu := duF_u (r := r) ⟨r1, r2⟩
        obtain ⟨d1, d2⟩ := hdu
        go_wp2_with fail
        refine (duF_run ⟨r1, r2⟩ _).mono ?_
        rintro en w' ⟨rfl, n2, rfl⟩
        go_wp2_with fail
        go_roundw
        case rel => exact ⟨k - 1, duF r, by omega, by omega, ⟨d1, d2⟩, rfl, rfl, hkr.drewN n2, HT2.out⟩
        case measure => simp [intOf]; omega
      · have hte := HTT.out.last (show fxF (k, r) = none from if_neg h12)
        subst hte
        go_wp2_with fail
        refine (HRR.out _).mono ?_
        rintro en w' ⟨rfl, rfl⟩
        have u1 := hd.lo; have u2 := hd.hi
        go_wp2_with fail
        go_ret2
        exact ⟨rfl, hkr⟩
  · have hdu : U u := ⟨u1, u2⟩
    obtain ⟨t, hT, ht2, ht3, ht4⟩ := fx_ends q u (by omega) (by omega) hdu
    obtain ⟨d, hd, HR⟩ := rroundF t.2 ht2
    refine ⟨d, -t.1, ⟨hd, by omega, by omega⟩, fun w hkw => ?_⟩
    have HT := Lib.hid hT; have HRR := Lib.hid HR; clear hT HR
    have htw := hkw.tabs ht hN
    have hNw : N ≤ w.heap.size := Nat.le_trans hN hkw.size
    go_enter Tryz.func153, Tryz.ntmps153
    go_wp2_with fail
    refine (log10 _ _ (by omega) (by omega)).mono ?_
    rintro en w' ⟨rfl, rfl⟩
    have hqq := HQ.out
    go_wp2_with fail
    refine (log2 _ _ (by omega) (by omega)).mono ?_
    rintro en w' ⟨rfl, rfl⟩
    go_wp2_with fail
    refine (HP.out _ _ _ _ _ (hkw.alloc _) hNw (heap_at rfl)).mono ?_
    rintro en w1 ⟨rfl, hB, hk⟩
    have hk1 : Kept [] w w1 := Kept.trans (Y := [w.heap.size]) (X := []) ((Kept.refl [] w).alloc _) hk (by simp) (by simp)
    have c0 : w1.cell? ⟨w.heap.size, 0, none⟩ = some (.int .u64 a) := by simp [World.cell?, hB]
    have c1 : w1.cell? ⟨w.heap.size, 1, none⟩ = some (.int .u64 b) := by simp [World.cell?, hB]
    have c2 : w1.cell? ⟨w.heap.size, 2, none⟩ = some (.int .i64 (-(e + q * 108853 / 32768 + 3))) := by simp [World.cell?, hB]
    have ht2 := htw.kept hk1 hNw (by simp)
    have cn := ht2.pow n.toNat (by omega)
    have HB := Lib.hid hB; have HK := Lib.hid hk1; clear hB hk hk1
    go_wp2_with fail
    refine (HU.out _ _ c0 c1 c2).mono ?_
    rintro en w' ⟨rfl, n1, rfl⟩
    clear c0 c1 c2
    go_wp2_with fail
    refine (HV.out _).mono ?_
    rintro en w' ⟨rfl, rfl⟩
    clear cn
    have k1 : Kept [] w (w1.drewN n1) := HK.out.drewN n1
    generalize w1.drewN n1 = w2 at k1
    go_wp2_with fail
    go_loopw [11, 13] (fun p u wr => ∃ (k r : Int), -14 ≤ k ∧ k ≤ 60 ∧ U r ∧ p = .int .i64 k ∧ u = .int .u64 r ∧ Kept [] w wr ∧ Tr fxF (k, r) t) (fun p _ _ => (intOf p + 100).toNat)
    case atStart => exact ⟨_, _, by omega, by omega, hdu, rfl, rfl, by assumption, HT.out⟩
    case round =>
      obtain ⟨k, r, hk1, hk2, ⟨r1, r2⟩, rfl, rfl, hkr, hT⟩ := hrel
      have HTT := Lib.hid hT; clear hT
      by_cases h12 : 12 < k
      · have hT2 := HTT.out.next (show fxF (k, r) = some (k - 1, duF r) from if_pos h12)
        have HT2 := Lib.hid hT2; clear hT2
        have hdu := duF_u (r := r) ⟨r1, r2⟩
        obtain ⟨d1, d2⟩ := hdu
        go_wp2_with fail
        refine (duF_run ⟨r1, r2⟩ _).mono ?_
        rintro en w' ⟨rfl, n2, rfl⟩
        go_wp2_with fail
        go_roundw
        case rel => exact ⟨k - 1, duF r, by omega, by omega, ⟨d1, d2⟩, rfl, rfl, hkr.drewN n2, HT2.out⟩
        case measure => simp [intOf]; omega
      · have hte := HTT.out.last (show fxF (k, r) = none from if_neg h12)
        subst hte
        go_wp2_with fail
        refine (HRR.out _).mono ?_
        rintro en w' ⟨rfl, rfl⟩
        have u1 := hd.lo; have u2 := hd.hi
        go_wp2_with fail
        go_ret2
        exact ⟨rfl, hkr⟩
end Go.Proofs.YtfkecmlmnhbmoaaGreatDoor
namespace Go.Proofs.YtfkecmlmnhbmoaaGreatDoor
open Go.RowKit Go.Sort
/-- One byte more behind a row of bytes of the call's own; every block of another kind stays. -/
theorem appX {ops : Array Oper} {rest : List Oper} {o : Oper} {a : Act} {Q : Exit → Act → World → Prop} (hgd : o.guard = none) (s x : Operand)
    (ho : o.op = .call { callee := .builtin .append, args := #[s, x], argTypes := #[105, 105] }) {a0 W : World} {v : Value} {bs : List Int} {c : Int} {t : TypeId} (hown : Own a0 W v bs) (hs : a.eval s = v)
    {g : Nat} (hx : a.eval x = .slice (some ⟨g, 0, none⟩) 1 1) (hgW : g = W.heap.size) (hlen : bs.length ≤ 140737488355000)
    (h : ∀ v' w', Own a0 w' v' (bs ++ [c]) → (∀ (B : Nat) (cs : Array Value) (t : Nat) (f : Nat × Nat), W.heap[B]? = some (.cells cs t f) → t ≠ 5 → w'.heap[B]? = some (.cells cs t f)) → wpList Tryz.prog ops Q rest (a.put o.dst v') w') :
    wpList Tryz.prog ops Q (o :: rest) a (W.alloc (.cells #[.int .u8 c] t)) := by
  subst hgW
  obtain ⟨i0, hi, hz0, hz1, hz2⟩ := info_parts Tryz.info5
  refine wpList_append_own _ hgd s x 105 ho a0.heap.size 5 i0 (.int .u8 0) 1 1 Tryz.underlying105 hi hz0 hz1 hz2 rfl (by decide) v bs.length _ hs (hown.row.alloc _) ⟨W.heap.size, 0, none⟩ 1 1 [.int .u8 c] hx rfl ?_ ?_ ?_ ?_ ?_ ?_
  · exact cells_new_at _ _ _ _ rfl
  · intro u hu; simp at hu; subst hu; rfl
  · unfold maxLen; omega
  · omega
  · have := hown.kept.size; simp; omega
  · intro v' w' hown' hg _
    have hne : ∀ k, k < W.heap.size → some k ≠ v.ownBlock → w'.heap[k]? = W.heap[k]? := fun k hk hn => by
      rw [hg.block k (by simp; omega) hn, Below.heap_alloc _ _ _ hk]
    refine h v' w' ⟨by simpa using hown', ?_⟩ fun B cs t f hr ht => ?_
    · refine ⟨hg.os.trans hown.kept.os, hg.tape.trans hown.kept.tape, hg.output.trans hown.kept.output, ?_, fun k hk hx => ?_⟩
      · have h1 := hown.kept.size; have h2 := hg.size; simp at h2; omega
      · have h1 := hown.kept.size
        rw [hne k (by omega) (fun e => by have := (hown.row.lt k e.symm).1; omega)]
        exact hown.kept.block k hk hx
    · refine (hne B (lt_of_block hr) fun e => ?_).trans hr
      rcases hown.row.2 with ⟨rfl, _⟩ | ⟨g, cap, cur, rfl, _, hh, _⟩
      · cases e
      · simp only [Value.ownBlock, Option.some.injEq] at e
        subst e
        rw [hr] at hh
        simp only [Option.some.injEq, Obj.cells.injEq] at hh
        exact ht hh.2.1
def KeepX (W w' : World) : Prop := ∀ (B : Nat) (cs : Array Value) (t : Nat) (f : Nat × Nat), W.heap[B]? = some (.cells cs t f) → t ≠ 5 → w'.heap[B]? = some (.cells cs t f)
theorem DigX.keep {W w' : World} {B n : Nat} {x : Nat → Nat} (h : DigX W B x n) (k : KeepX W w') : DigX w' B x n := by
  obtain ⟨cs, t, hr, ht⟩ := h.row
  exact h.same ((k _ _ _ _ hr ht).trans hr.symm)
theorem KeepX.trans {a b c : World} (h : KeepX a b) (k : KeepX b c) : KeepX a c := fun _B _cs _t _f h1 h2 => k _ _ _ _ (h _ _ _ _ h1 h2) h2
/-- Digits k of them, from o on. -/
def dl (x : Nat → Nat) (o k : Nat) : List Int := (List.range k).map fun i => ((x (o + i) : Nat) : Int)
theorem dl_succ (x : Nat → Nat) (o k : Nat) : dl x o (k + 1) = dl x o k ++ [((x (o + k) : Nat) : Int)] := by simp [dl, List.range_succ]
theorem dl_len (x : Nat → Nat) (o k : Nat) : (dl x o k).length = k := by simp [dl]
theorem rep_succ (k : Nat) : List.replicate (k + 1) (48 : Int) = List.replicate k 48 ++ [48] := List.replicate_succ'
theorem dl_all {x : Nat → Nat} {nd o k : Nat} (hx : ∀ i, i < nd → 48 ≤ x i ∧ x i ≤ 57) (h : o + k ≤ nd ∨ k = 0) : AllD (dl x o k) := fun c hc => by
  obtain ⟨i, hi, rfl⟩ := List.mem_map.1 hc
  have := List.mem_range.1 hi
  have := hx (o + i) (by omega)
  omega
theorem rep_all (k : Nat) : AllD (List.replicate k 48) := fun c hc => by rw [(List.mem_replicate.1 hc).2]; omega
theorem AllD.app {a b : List Int} (h : AllD a) (k : AllD b) : AllD (a ++ b) := fun c hc => by
  rcases List.mem_append.1 hc with h1 | h1
  · exact h c h1
  · exact k c h1
def efgM (nd : Nat) (dp : Int) : Nat := (min (nd : Int) dp).toNat
def efgN (nd : Nat) (dp : Int) : Nat := (min (12 : Int) (max 0 ((nd : Int) - dp))).toNat
/-- The text of digits whose point stands behind dp of them. -/
def efgB (neg : Bool) (x : Nat → Nat) (nd : Nat) (dp : Int) : List Int :=
  sgn neg ++ dl x 0 (efgM nd dp) ++ List.replicate (dp.toNat - efgM nd dp) 48 ++ [46] ++ dl x dp.toNat (efgN nd dp) ++ List.replicate (12 - efgN nd dp) 48
theorem efgB_frac (neg : Bool) (x : Nat → Nat) (nd : Nat) (dp : Int) (hdp : 0 < dp) (hx : ∀ i, i < nd → 48 ≤ x i ∧ x i ≤ 57) : FracP neg dp.toNat 12 (efgB neg x nd dp) := by
  refine ⟨dl x 0 (efgM nd dp) ++ List.replicate (dp.toNat - efgM nd dp) 48, dl x dp.toNat (efgN nd dp) ++ List.replicate (12 - efgN nd dp) 48, by simp [efgB], (dl_all hx (by unfold efgM; omega)).app (rep_all _), ?_, (dl_all hx (by unfold efgN; omega)).app (rep_all _), ?_⟩
  · rw [List.length_append, dl_len, List.length_replicate]; unfold efgM; omega
  · rw [List.length_append, dl_len, List.length_replicate]; unfold efgN; omega
set_option maxRecDepth 100000 in
set_option maxHeartbeats 4000000 in
theorem efg_posF (neg : Bool) (x : Nat → Nat) (Ln : Nat) (dp : Int) (nd : Nat) (hdp : 0 < dp) (hdp2 : dp ≤ 37) (hnd : nd ≤ Ln) (hL : Ln ≤ 800) (v0 : Value) (B : Nat) (a0 w : World) (hown : Own a0 w v0 []) (hd : DigX w B x nd) :
    Calls Tryz.prog 150 #[v0, .bool neg, .slice (some ⟨B, 0, none⟩) Ln Ln, .int .i64 dp, .int .i64 nd, .int .i64 12, .int .u8 102, .bool false] w fun en w' =>
      ∃ v, en = .returned v ∧ Own a0 w' v (efgB neg x nd dp) := by
  obtain ⟨m, hm⟩ : ∃ m : Nat, min (nd : Int) dp = m := ⟨(min (nd : Int) dp).toNat, by omega⟩
  have hmE : efgM nd dp = m := by unfold efgM; omega
  have m1 : m ≤ nd := by omega
  have m2 : (m : Int) ≤ dp := by omega
  have m3 : m ≤ Ln := by omega
  obtain ⟨b0, hb0, hb1⟩ : ∃ b0, b0 = sgn neg ∧ b0.length ≤ 1 := ⟨_, rfl, by cases neg <;> simp [sgn]⟩
  have HME := Lib.hid hmE; clear hmE
  cases neg
  case' false =>
    go_enter Tryz.func150, Tryz.ntmps150
    go_wp2_with fail
    have hown : Own a0 w v0 b0 := by rw [hb0]; exact hown
  case' true =>
    go_enter Tryz.func150, Tryz.ntmps150
    go_wp2_with (at_builtin; go_must (refine appX rfl _ _ rfl hown rfl rfl rfl (by simp) ?_; intro v1 w1 h1 hd1))
    have hown : Own a0 w1 v1 b0 := by rw [hb0]; exact h1
    have hd := hd.keep hd1
    clear hd1
  all_goals
    have HB0 := Lib.hid hb0; clear hb0
    go_loopw [0, 191] (fun v i wr => ∃ (k : Nat), k ≤ m ∧ i = .int .i64 k ∧ Own a0 wr v (b0 ++ dl x 0 k) ∧ DigX wr B x nd) (fun _ i _ => m - (intOf i).toNat)
    case atStart => exact ⟨0, by omega, rfl, by simpa [dl] using hown, hd⟩
    case round =>
      clear hown hd
      obtain ⟨k, hk, rfl, ho, hd⟩ := hrel
      have hlen : (b0 ++ dl x 0 k).length ≤ k + 1 := by rw [List.length_append, dl_len]; omega
      by_cases hlt : k < m
      · obtain ⟨c1, c2, hc⟩ := hd.dig k (by omega)
        go_wp2_with (at_builtin; go_must (refine appX rfl _ _ rfl ho rfl rfl rfl (by omega) ?_; intro v1 w1 h1 hd1))
        go_roundw
        case rel => exact ⟨k + 1, by omega, by go_num, by rw [dl_succ, Nat.zero_add, ← List.append_assoc]; exact h1, hd.keep hd1⟩
        case measure => simp [intOf]; omega
      · obtain rfl : k = m := by omega
        go_wp2_with fail
        go_loopw [0, 203] (fun v i wr => ∃ (j : Nat), (k : Int) + j ≤ dp ∧ i = .int .i64 j ∧ Own a0 wr v (b0 ++ dl x 0 k ++ List.replicate j 48) ∧ DigX wr B x nd) (fun _ i _ => dp.toNat - (intOf i).toNat)
        case atStart => exact ⟨0, by omega, rfl, by simpa using ho, hd⟩
        case round =>
          clear ho hd
          obtain ⟨j, hj, rfl, ho, hd⟩ := hrel
          have hlen2 : (b0 ++ dl x 0 k ++ List.replicate j (48 : Int)).length ≤ 100 := by rw [List.length_append, List.length_replicate]; omega
          by_cases hlt2 : (k : Int) + j < dp
          · go_wp2_with (at_builtin; go_must (refine appX rfl _ _ rfl ho rfl rfl rfl (by omega) ?_; intro v1 w1 h1 hd1))
            go_roundw
            case rel => exact ⟨j + 1, by omega, by go_num, by rw [rep_succ, ← List.append_assoc]; exact h1, hd.keep hd1⟩
            case measure => simp [intOf]; omega
          · have hdj : (k : Int) + j = dp := by omega
            have z1 : min (12 : Int) (max 0 (-dp)) = 0 := by omega
            obtain ⟨M, zM⟩ : ∃ M : Nat, min (12 : Int) (max 0 ((nd : Int) - dp)) = M := ⟨(min (12 : Int) (max 0 ((nd : Int) - dp))).toNat, by omega⟩
            have hME2 : efgN nd dp = M := by unfold efgN; omega
            obtain ⟨T, zT⟩ : ∃ T : Nat, max (0 : Int) (12 - (M : Int)) = T := ⟨(max (0 : Int) (12 - (M : Int))).toNat, by omega⟩
            have hMT : M + T = 12 := by omega
            have hMn : 0 < M → (M : Int) ≤ nd - dp := by omega
            have HM2 := Lib.hid hME2; clear hME2
            go_wp2_with (at_builtin; go_must (refine appX rfl _ _ rfl ho rfl rfl rfl (by omega) ?_; intro v1 w1 h1 hd1))
            have hd := hd.keep hd1
            clear ho hd1
            obtain ⟨b2, hb2⟩ : ∃ b2, b2 = b0 ++ dl x 0 k ++ List.replicate j (48 : Int) ++ [46] := ⟨_, rfl⟩
            have hl2 : b2.length ≤ 101 := by rw [hb2, List.length_append]; simp only [List.length_singleton]; omega
            rw [← hb2] at h1
            have HB2 := Lib.hid hb2; clear hb2
            refine wp_loop_once ?_
            go_wp2_with fail
            go_loopw [0, 247] (fun v i wr => ∃ (q : Nat), q ≤ M ∧ i = .int .i64 q ∧ Own a0 wr v (b2 ++ dl x (k + j) q) ∧ DigX wr B x nd) (fun _ i _ => M - (intOf i).toNat)
            case atStart => exact ⟨0, by omega, rfl, by simpa [dl] using h1, hd⟩
            case round =>
              clear h1 hd
              obtain ⟨q, hq, rfl, ho, hd⟩ := hrel
              have hlen3 : (b2 ++ dl x (k + j) q).length ≤ 120 := by rw [List.length_append, dl_len]; omega
              by_cases hlt3 : q < M
              · obtain ⟨c1, c2, hc⟩ := hd.dig (k + j + q) (by omega)
                have hc' : wr.cell? ⟨B, (dp + (q : Int)).toNat, none⟩ = some (.int .u8 (x (k + j + q) : Nat)) := by rw [show (dp + (q : Int)).toNat = k + j + q by omega]; exact hc
                go_wp2_with (at_builtin; go_must (refine appX rfl _ _ rfl ho rfl rfl rfl (by omega) ?_; intro v1 w1 h1 hd1))
                go_roundw
                case rel => exact ⟨q + 1, by omega, by go_num, by rw [dl_succ, ← List.append_assoc]; exact h1, hd.keep hd1⟩
                case measure => simp [intOf]; omega
              · obtain rfl : q = M := by omega
                go_wp2_with fail
                go_loopw [0, 261] (fun v i wr => ∃ (r : Nat), r ≤ T ∧ i = .int .i64 r ∧ Own a0 wr v (b2 ++ dl x (k + j) q ++ List.replicate r 48)) (fun _ i _ => T - (intOf i).toNat)
                case atStart => exact ⟨0, by omega, rfl, by simpa using ho⟩
                case round =>
                  clear ho hd
                  obtain ⟨r, hr, rfl, ho⟩ := hrel
                  have hlen4 : (b2 ++ dl x (k + j) q ++ List.replicate r (48 : Int)).length ≤ 140 := by rw [List.length_append, List.length_replicate]; omega
                  by_cases hlt4 : r < T
                  · go_wp2_with (at_builtin; go_must (refine appX rfl _ _ rfl ho rfl rfl rfl (by omega) ?_; intro v1 w1 h1 hd1))
                    go_roundw
                    case rel => exact ⟨r + 1, by omega, by go_num, by rw [rep_succ, ← List.append_assoc]; exact h1⟩
                    case measure => simp [intOf]; omega
                  · obtain rfl : r = T := by omega
                    go_wp2_with fail
                    go_ret
                    refine ⟨_, rfl, ?_⟩
                    have e1 : dp.toNat = k + j := by omega
                    have e2 : 12 - q = r := by omega
                    have e3 : dp.toNat - k = j := by omega
                    unfold efgB
                    rw [HME.out, HM2.out, ← HB0.out, e3, e1, e2, ← HB2.out]
                    exact ho
end Go.Proofs.YtfkecmlmnhbmoaaGreatDoor
namespace Go.Proofs.YtfkecmlmnhbmoaaGreatDoor
open Go.RowKit Go.Sort
def efgZ (dp : Int) : Nat := (min (12 : Int) (max 0 (-dp))).toNat
def efgK (nd : Nat) (dp : Int) : Nat := (min (12 - (efgZ dp : Int)) (max 0 ((nd : Int) - (dp + efgZ dp)))).toNat
/-- The text of digits whose point stands ahead of them. -/
def efgC (neg : Bool) (x : Nat → Nat) (nd : Nat) (dp : Int) : List Int :=
  sgn neg ++ [48] ++ [46] ++ List.replicate (efgZ dp) 48 ++ dl x 0 (efgK nd dp) ++ List.replicate (12 - efgZ dp - efgK nd dp) 48
theorem efgC_frac (neg : Bool) (x : Nat → Nat) (nd : Nat) (dp : Int) (hx : ∀ i, i < nd → 48 ≤ x i ∧ x i ≤ 57) : FracP neg 1 12 (efgC neg x nd dp) := by
  refine ⟨[48], List.replicate (efgZ dp) 48 ++ dl x 0 (efgK nd dp) ++ List.replicate (12 - efgZ dp - efgK nd dp) 48, by simp [efgC], (fun c hc => by rw [List.mem_singleton.1 hc]; omega), rfl, ((rep_all _).app (dl_all hx ?_)).app (rep_all _), ?_⟩
  · unfold efgK efgZ; omega
  · rw [List.length_append, List.length_append, dl_len, List.length_replicate, List.length_replicate]; unfold efgK efgZ; omega
set_option maxRecDepth 100000 in
set_option maxHeartbeats 4000000 in
theorem efg_nonF (neg : Bool) (x : Nat → Nat) (dp : Int) (nd : Nat) (hdp : -2000 ≤ dp) (hdp2 : dp ≤ 0) (hnd : nd ≤ 800) (v0 sv : Value) (a0 w : World) (hown : Own a0 w v0 [])
    (hs : nd = 0 ∨ ∃ B L, sv = .slice (some ⟨B, 0, none⟩) L L ∧ nd ≤ L ∧ L ≤ 800 ∧ DigX w B x nd) :
    Calls Tryz.prog 150 #[v0, .bool neg, sv, .int .i64 dp, .int .i64 nd, .int .i64 12, .int .u8 102, .bool false] w fun en w' =>
      ∃ v, en = .returned v ∧ Own a0 w' v (efgC neg x nd dp) := by
  obtain ⟨Z, zZ⟩ : ∃ Z : Nat, min (12 : Int) (max 0 (-dp)) = Z := ⟨(min (12 : Int) (max 0 (-dp))).toNat, by omega⟩
  obtain ⟨M, zM⟩ : ∃ M : Nat, min (12 - (Z : Int)) (max 0 ((nd : Int) - (dp + Z))) = M := ⟨(min (12 - (Z : Int)) (max 0 ((nd : Int) - (dp + Z)))).toNat, by omega⟩
  obtain ⟨T, zT⟩ : ∃ T : Nat, max (0 : Int) (12 - (Z : Int) - (M : Int)) = T := ⟨(max (0 : Int) (12 - (Z : Int) - (M : Int))).toNat, by omega⟩
  have hMT : Z + M + T = 12 := by omega
  have hMn : 0 < M → dp + Z = 0 ∧ M ≤ nd := by omega
  have hZE : efgZ dp = Z := by unfold efgZ; omega
  have hKE : efgK nd dp = M := by unfold efgK; rw [hZE]; omega
  have hTE : 12 - Z - M = T := by omega
  have HZE := Lib.hid hZE; have HKE := Lib.hid hKE; have HTE := Lib.hid hTE; clear hZE hKE hTE
  have hd : ∀ W : World, KeepX w W → 0 < M → ∃ B L, sv = .slice (some ⟨B, 0, none⟩) L L ∧ nd ≤ L ∧ L ≤ 800 ∧ DigX W B x nd := fun W hW h => by
    rcases hs with hs | ⟨B, L, h1, h2, h3, h4⟩
    · have := hMn h; omega
    · exact ⟨B, L, h1, h2, h3, h4.keep hW⟩
  have hW : KeepX w w := fun _ _ _ _ h _ => h
  have HD := Lib.hid hd; clear hd hs
  obtain ⟨b0, hb0, hb1⟩ : ∃ b0, b0 = sgn neg ++ [48] ++ [46] ∧ b0.length ≤ 3 := ⟨_, rfl, by cases neg <;> simp [sgn]⟩
  cases neg
  case' false =>
    go_enter Tryz.func150, Tryz.ntmps150
    go_wp2_with (first
      | (at_builtin; refine appX rfl _ _ rfl hown rfl rfl rfl (by decide) ?_; intro v2 w2 h2 hd2; have hW := hW.trans hd2; clear hown hd2)
      | (at_builtin; refine appX rfl _ _ rfl h2 rfl rfl rfl (by decide) ?_; intro v3 w3 h3 hd3; have hW := hW.trans hd3; clear h2 hd3))
    have h3 : Own a0 w3 v3 b0 := by rw [hb0]; exact h3
  case' true =>
    go_enter Tryz.func150, Tryz.ntmps150
    go_wp2_with (first
      | (at_builtin; refine appX rfl _ _ rfl hown rfl rfl rfl (by decide) ?_; intro v1 w1 h1 hd1; have hW := hW.trans hd1; clear hown hd1)
      | (at_builtin; refine appX rfl _ _ rfl h1 rfl rfl rfl (by decide) ?_; intro v2 w2 h2 hd2; have hW := hW.trans hd2; clear h1 hd2)
      | (at_builtin; refine appX rfl _ _ rfl h2 rfl rfl rfl (by decide) ?_; intro v3 w3 h3 hd3; have hW := hW.trans hd3; clear h2 hd3))
    have h3 : Own a0 w3 v3 b0 := by rw [hb0]; exact h3
  all_goals
    have HB0 := Lib.hid hb0; clear hb0
    have HW := Lib.hid hW; clear hW
    go_loopw [0, 240] (fun v i wr => ∃ (q : Nat), q ≤ Z ∧ i = .int .i64 q ∧ Own a0 wr v (b0 ++ List.replicate q 48) ∧ KeepX w wr) (fun _ i _ => Z - (intOf i).toNat)
    case atStart => exact ⟨0, by omega, rfl, by simpa using h3, HW.out⟩
    case round =>
      clear h3 HW
      obtain ⟨q, hq, rfl, ho, hd⟩ := hrel
      have hlen : (b0 ++ List.replicate q (48 : Int)).length ≤ 20 := by rw [List.length_append, List.length_replicate]; omega
      by_cases hlt3 : q < Z
      · go_wp2_with (at_builtin; go_must (refine appX rfl _ _ rfl ho rfl rfl rfl (by omega) ?_; intro v1 w1 h1 hd1))
        go_roundw
        case rel => exact ⟨q + 1, by omega, by go_num, by rw [rep_succ, ← List.append_assoc]; exact h1, hd.trans hd1⟩
        case measure => simp [intOf]; omega
      · obtain rfl : q = Z := by omega
        go_wp2_with fail
        go_loopw [0, 247] (fun v i wr => ∃ (r : Nat), r ≤ M ∧ i = .int .i64 r ∧ Own a0 wr v (b0 ++ List.replicate q 48 ++ dl x 0 r) ∧ KeepX w wr) (fun _ i _ => M - (intOf i).toNat)
        case atStart => exact ⟨0, by omega, rfl, by simpa [dl] using ho, hd⟩
        case round =>
          clear ho hd
          obtain ⟨r, hr, rfl, ho, hd⟩ := hrel
          have hlen2 : (b0 ++ List.replicate q (48 : Int) ++ dl x 0 r).length ≤ 50 := by rw [List.length_append, dl_len]; omega
          by_cases hlt4 : r < M
          · obtain ⟨B, L, rfl, hL1, hL2, hD⟩ := HD.out _ hd (by omega)
            obtain ⟨c1, c2, hc⟩ := hD.dig r (by have := hMn (by omega); omega)
            have hc' : wr.cell? ⟨B, (dp + (q : Int) + (r : Int)).toNat, none⟩ = some (.int .u8 (x r : Nat)) := by rw [show (dp + (q : Int) + (r : Int)).toNat = r by have := hMn (by omega); omega]; exact hc
            go_wp2_with (at_builtin; go_must (refine appX rfl _ _ rfl ho rfl rfl rfl (by omega) ?_; intro v1 w1 h1 hd1))
            go_roundw
            case rel =>
              first | exact ⟨r + 1, by omega, by go_num, by rw [dl_succ, Nat.zero_add, ← List.append_assoc]; exact h1, hd.trans hd1⟩ | ((repeat apply Exists.intro); exact ⟨⟨r + 1, by omega, by go_num, by rw [dl_succ, Nat.zero_add, ← List.append_assoc]; exact h1, hd.trans hd1⟩, rfl⟩)
            case measure => simp [intOf]; omega
          · obtain rfl : r = M := by omega
            go_wp2_with fail
            go_loopw [0, 261] (fun v i wr => ∃ (s : Nat), s ≤ T ∧ i = .int .i64 s ∧ Own a0 wr v (b0 ++ List.replicate q 48 ++ dl x 0 r ++ List.replicate s 48)) (fun _ i _ => T - (intOf i).toNat)
            case atStart => exact ⟨0, by omega, rfl, by simpa using ho⟩
            case round =>
              clear ho hd
              obtain ⟨s, hs, rfl, ho⟩ := hrel
              have hlen3 : (b0 ++ List.replicate q (48 : Int) ++ dl x 0 r ++ List.replicate s (48 : Int)).length ≤ 70 := by rw [List.length_append, List.length_replicate]; omega
              by_cases hlt5 : s < T
              · go_wp2_with (at_builtin; go_must (refine appX rfl _ _ rfl ho rfl rfl rfl (by omega) ?_; intro v1 w1 h1 hd1))
                go_roundw
                case rel => exact ⟨s + 1, by omega, by go_num, by rw [rep_succ, ← List.append_assoc]; exact h1⟩
                case measure => simp [intOf]; omega
              · obtain rfl : s = T := by omega
                go_wp2_with fail
                go_ret
                refine ⟨_, rfl, ?_⟩
                unfold efgC
                rw [HKE.out, HZE.out, HTE.out, ← HB0.out]
                exact ho
end Go.Proofs.YtfkecmlmnhbmoaaGreatDoor
