import Derived.Test.YtfkecmlmnhbmoaaGreatDoorDs21
import Derived.Test.YtfkecmlmnhbmoaaGreatDoorDs04
import Derived.RegionTactic
namespace Go.Proofs.YtfkecmlmnhbmoaaGreatDoor
open Go.RowKit
/-- What the reals' functions want of the program's tables. -/
structure Tb (N : Nat) (w : World) : Prop where
  tabs : Tabs N w
  pow : Pow N w
  powt : PowT N w
  cheat : Cheat N w
theorem Tb.kept {N : Nat} {w w' : World} {X : List Nat} (h : Tb N w) (hk : Kept X w w') (hN : N ≤ w.heap.size) (hX : ∀ x ∈ X, N ≤ x) : Tb N w' :=
  ⟨h.tabs.kept hk hN hX, h.pow.kept hk hN hX, h.powt.kept hk hN hX, h.cheat.kept hk hN hX h.tabs.low⟩
def AtR (s : ByteArray) (e : Ending) : Prop := ∃ r : Nat, e = .returned (.tuple #[.float .f64 r, .int .i64 s.size, .nilIface])
theorem ext_all (s : ByteArray) : s.extract 0 s.size = s := by
  apply ba_ext; simp
set_option maxRecDepth 100000 in
set_option maxHeartbeats 8000000 in
theorem atof (s : ByteArray) (g L N : Nat) (w : World) (hs : NumS s g L) (ht : Tb N w) (hN : N ≤ w.heap.size) :
    Calls Tryz.prog 144 #[.string s] w fun e w' => AtR s e ∧ Kept [] w w' := by
  have hsz : s.size ≤ 60 := by have := hs.size; have := hs.g1; have := hs.l2; omega
  have hsz2 : 1 ≤ s.size := by have := hs.size; omega
  have hcb := c189
  have hext := ext_all s
  go_enter Tryz.func144, Tryz.ntmps144
  go_wp2_with fail
  refine (spcl s g L _ hs).mono ?_
  rintro e w' ⟨rfl, k1, rfl⟩
  go_wp2_with fail
  refine (readf s g L _ hs).mono ?_
  rintro e w' ⟨⟨m, x, ng, tr, rfl, hm, hx1, hx2⟩, k2, rfl⟩
  have hK : Kept [] w ((w.drewN k1).drewN k2) := ((Kept.refl [] w).drewN k1).drewN k2
  generalize (w.drewN k1).drewN k2 = w1 at hK
  have ht1 := ht.kept hK hN (by simp)
  have hN1 := Nat.le_trans hN hK.size
  have cO := ht1.tabs.opt
  clear ht
  go_wp2_with fail
  refine (b2u _ _).mono ?_
  rintro e w' ⟨rfl, rfl⟩
  have hb := bi_01 ng
  obtain ⟨b1, b2⟩ := hb
  generalize bi ng = sg at b1 b2
  by_cases hm0 : m = 0
  · subst hm0
    go_wp2_with fail
    go_ret3
    exact ⟨⟨_, rfl⟩, hK⟩
  · have zm : ((m : Int) == 0) = false := beq_eq_false_iff_ne.2 (by omega)
    have hU : U (sg * 9223372036854775808) := ⟨by omega, by omega⟩
    cases tr
    · go_wp2_with fail
      refine (exact64 m x ng N _ ht1.tabs ht1.pow hm hx1 hx2).mono ?_
      rintro e w' ⟨⟨r, b, rfl⟩, k3, rfl⟩
      have hK2 := hK.drewN k3
      have ht2 := ht1.kept ((Kept.refl [] w1).drewN k3) hN1 (by simp)
      generalize w1.drewN k3 = w2 at hK2 ht2
      have hN2 : N ≤ w2.heap.size := Nat.le_trans hN hK2.size
      cases b
      · go_wp2_with fail
        refine (parse64 m x _ N _ ht2.tabs hN2 (by omega) (by omega) hx1 hx2 hU).mono ?_
        rintro e w3 ⟨⟨r, rfl⟩, hk3⟩
        go_wp2_with fail
        go_ret3
        exact ⟨⟨_, rfl⟩, Kept.trans hK2 hk3 (by simp) (by simp)⟩
      · go_wp2_with fail
        go_ret3
        exact ⟨⟨_, rfl⟩, hK2⟩
    · go_wp2_with fail
      refine (parse64 m x _ N _ ht1.tabs hN1 (by omega) (by omega) hx1 hx2 hU).mono ?_
      rintro e w3 ⟨⟨r, rfl⟩, hk3⟩
      have hK2 := Kept.trans (Z := []) hK hk3 (by simp) (by simp)
      have ht2 := ht1.kept hk3 hN1 (by simp)
      have hN2 : N ≤ w3.heap.size := Nat.le_trans hN hK2.size
      go_wp2_with fail
      rw [show ((m : Int) + 1) = ((m + 1 : Nat) : Int) by omega]
      refine (parse64 (m + 1) x _ N _ ht2.tabs hN2 (by omega) (by omega) hx1 hx2 hU).mono ?_
      rintro e w4 ⟨⟨r4, rfl⟩, hk4⟩
      have hK3 := Kept.trans (Z := []) hK2 hk4 (by simp) (by simp)
      have ht3 := ht2.kept hk4 hN2 (by simp)
      have hN3 : N ≤ w4.heap.size := Nat.le_trans hN hK3.size
      go_wp2_with fail
      · go_ret3
        exact ⟨⟨_, rfl⟩, hK3⟩
      · refine (dset w4.heap.size s g L _ hs (dec0 (heap_at rfl))).mono ?_
        rintro e w5 ⟨rfl, hk5, x5, nd5, dp5, ng5, hD5, hd5, a1, a2, a3, a4⟩
        have hk45 : Kept [w4.heap.size] w4 w5 := Kept.trans ((Kept.refl [] w4).alloc _) hk5 (by simp) (fun _ h _ => h)
        have hK5 : Kept [] w w5 := Kept.trans hK3 hk45 (by simp) (fun y hy hl => by have := hK3.size; simp at hy; omega)
        have ht5 := ht3.kept hk45 hN3 (by simpa using hN3)
        have hNB := hN3
        go_wp2_with fail
        refine (dbits w4.heap.size N x5 nd5 dp5 ng5 w5 ht5.tabs ht5.powt ht5.cheat hNB hD5 hd5 a1 a2 a3 a4).mono ?_
        rintro e w6 ⟨⟨r6, hr6, rfl⟩, hk6⟩
        have hK6 : Kept [] w w6 := Kept.trans hK5 hk6 (by simp) (fun y hy hl => by have := hK3.size; simp at hy; omega)
        go_wp2_with fail
        go_ret3
        exact ⟨⟨_, rfl⟩, hK6⟩
set_option maxRecDepth 100000 in
set_option maxHeartbeats 2000000 in
theorem pfloat (s : ByteArray) (g L N : Nat) (w : World) (hs : NumS s g L) (ht : Tb N w) (hN : N ≤ w.heap.size) :
    Calls Tryz.prog 67 #[.string s, .int .i64 64] w fun e w' => RetFE e ∧ Kept [] w w' := by
  have hsz : s.size ≤ 60 := by have := hs.size; have := hs.g1; have := hs.l2; omega
  have h112 : ∀ W : World, W = w → Calls Tryz.prog 112 #[.string s, .int .i64 64] W fun e w' => AtR s e ∧ Kept [] w w' := fun W hW => by
    subst hW
    go_enter Tryz.func112, Tryz.ntmps112
    go_wp2_with fail
    refine (atof s g L N _ hs ht hN).mono ?_
    rintro e w' ⟨⟨r, rfl⟩, hk⟩
    go_wp2_with fail
    go_ret3
    exact ⟨⟨_, rfl⟩, hk⟩
  have h84 : ∀ W : World, W = w → Calls Tryz.prog 84 #[.string s, .int .i64 64] W fun e w' => RetFE e ∧ Kept [] w w' := fun W hW => by
    have H := Lib.hid h112; clear h112
    subst hW
    go_enter Tryz.func84, Tryz.ntmps84
    go_wp2_with fail
    refine (H.out _ rfl).mono ?_
    rintro e w' ⟨⟨r, rfl⟩, hk⟩
    go_wp2_with fail
    go_ret2
    exact ⟨⟨_, rfl⟩, hk⟩
  have H := Lib.hid h84; clear h84 h112
  go_enter Tryz.func67, Tryz.ntmps67
  go_wp2_with fail
  refine (H.out _ rfl).mono ?_
  rintro e w' ⟨⟨r, rfl⟩, hk⟩
  go_wp2_with fail
  go_ret2
  exact ⟨⟨_, rfl⟩, hk⟩
end Go.Proofs.YtfkecmlmnhbmoaaGreatDoor
namespace Go.Proofs.YtfkecmlmnhbmoaaGreatDoor
open Go.RowKit
theorem subOk : BinOp.sub = .add ∨ BinOp.sub = .sub ∨ BinOp.sub = .mul ∨ BinOp.sub = .quo := .inr (.inl rfl)
/-- What Twelve tells: if it says yes, the real is no NaN. -/
def TwR (f : Nat) (e : Ending) : Prop := ∃ b : Bool, e = .returned (.bool b) ∧ (b = true → ¬ isNan f)
set_option maxRecDepth 100000 in
set_option maxHeartbeats 4000000 in
theorem twelve (f N : Nat) (w : World) (hf : f < 18446744073709551616) (ht : Tb N w) (hN : N ≤ w.heap.size) :
    Calls Tryz.prog 42 #[.float .f64 f] w fun e w' => TwR f e ∧ Kept [] w w' := by
  have hsub := fun t x y w => fl_run .sub subOk t x y w
  cases hb1 : (FloatKind.f64.format.order (flR .sub subOk 22 f f w) 0 != some .eq)
  · have hn : ¬ isNan f := fun h => by
      have h2 := nan_order (fl_nan .sub subOk 22 f f w (sub_nan h)) 0
      have h3 : FloatKind.f64.format.order (flR .sub subOk 22 f f w) 0 = none := h2
      rw [h3] at hb1
      exact absurd hb1 (by decide)
    cases hb2 : (FloatKind.f64.format.order f 4816244402031689728 == some .gt || FloatKind.f64.format.order f 4816244402031689728 == some .eq)
    · cases hb3 : (FloatKind.f64.format.order f 14039616438886465536 == some .lt || FloatKind.f64.format.order f 14039616438886465536 == some .eq)
      · have hE := exp_small hf hn hb2 hb3
        have HN := Lib.hid hn; clear hn
        go_enter Tryz.func42, Tryz.ntmps42
        go_wp2_with fail
        have hK1 : Kept [] w (w.drewN (flN .sub subOk 22 f f w)) := (Kept.refl [] w).drewN _
        generalize w.drewN (flN .sub subOk 22 f f w) = w1 at hK1
        have ht1 := ht.kept hK1 hN (by simp)
        have hN1 := Nat.le_trans hN hK1.size
        refine (fmt68 f N w1 ht1.tabs hN1 hf hE).mono ?_
        rintro e w2 ⟨bs, L, neg, rfl, hfr, hl1, hl2, hk2⟩
        obtain ⟨g, hnum⟩ := frac_num hfr hl1 hl2
        generalize strOfNums bs = s at hnum
        have hK2 := Kept.trans (Z := []) hK1 hk2 (by simp) (by simp)
        go_wp2_with fail
        refine (pfloat s g L N w2 hnum (ht1.kept hk2 hN1 (by simp)) (Nat.le_trans hN hK2.size)).mono ?_
        rintro e w3 ⟨⟨r, rfl⟩, hk3⟩
        have hK3 := Kept.trans (Z := []) hK2 hk3 (by simp) (by simp)
        go_wp2_with fail
        go_ret
        exact ⟨⟨_, rfl, fun _ => HN.out⟩, hK3⟩
      · go_enter Tryz.func42, Tryz.ntmps42
        go_wp2_with fail
        go_ret
        exact ⟨⟨_, rfl, fun h => by cases h⟩, (Kept.refl [] w).drewN _⟩
    · go_enter Tryz.func42, Tryz.ntmps42
      go_wp2_with fail
      go_ret
      exact ⟨⟨_, rfl, fun h => by cases h⟩, (Kept.refl [] w).drewN _⟩
  · go_enter Tryz.func42, Tryz.ntmps42
    go_wp2_with fail
    go_ret
    exact ⟨⟨_, rfl, fun h => by cases h⟩, (Kept.refl [] w).drewN _⟩
end Go.Proofs.YtfkecmlmnhbmoaaGreatDoor
namespace Go.Proofs.YtfkecmlmnhbmoaaGreatDoor
open Go.RowKit
/-- One byte more behind a row of bytes of the call's own; every block of another kind stays. -/
theorem appB2 {ops : Array Oper} {rest : List Oper} {o : Oper} {a : Act} {Q : Exit → Act → World → Prop} (hgd : o.guard = none) (s x : Operand)
    (ho : o.op = .call { callee := .builtin .append, args := #[s, x], argTypes := #[105, 105] }) {a0 W : World} {v : Value} {bs : List Int} {c : Int} {t : TypeId} (hown : Own a0 W v bs) (hs : a.eval s = v)
    {g : Nat} (hx : a.eval x = .slice (some ⟨g, 0, none⟩) 1 1) (hgW : g = W.heap.size) (hlen : bs.length ≤ 140737488355000)
    (h : ∀ v' w', Own a0 w' v' (bs ++ [c]) → (∀ (B : Nat) (cs : Array Value) (t : Nat) (f : Nat × Nat), W.heap[B]? = some (.cells cs t f) → t ≠ 5 → w'.heap[B]? = some (.cells cs t f)) → wpList Tryz.prog ops Q rest (a.put o.dst v') w') :
    wpList Tryz.prog ops Q (o :: rest) a (W.alloc (.cells #[.int .u8 c] t)) := by
  subst hgW
  obtain ⟨i0, hi, hz0, hz1, hz2⟩ := info_parts Tryz.info5
  refine wpList_append_own _ hgd s x 105 ho a0.heap.size 5 i0 (.int .u8 0) 1 1 Tryz.underlying105 hi hz0 hz1 hz2 rfl (by decide) v bs.length _ hs (hown.row.alloc _) ⟨W.heap.size, 0, none⟩ 1 1 [.int .u8 c] hx rfl ?_ ?_ ?_ ?_ ?_ ?_
  · exact cells_new_at _ _ _ _ rfl
  · intro u hu; simp at hu; subst hu; rfl
  · unfold maxLen; omega
  · omega
  · have := hown.kept.size; simp; omega
  · intro v' w' hown' hg _
    have hne : ∀ k, k < W.heap.size → some k ≠ v.ownBlock → w'.heap[k]? = W.heap[k]? := fun k hk hn => by
      rw [hg.block k (by simp; omega) hn, Below.heap_alloc _ _ _ hk]
    refine h v' w' ⟨by simpa using hown', ?_⟩ fun B cs t f hr ht => ?_
    · refine ⟨hg.os.trans hown.kept.os, hg.tape.trans hown.kept.tape, hg.output.trans hown.kept.output, ?_, fun k hk hx => ?_⟩
      · have h1 := hown.kept.size; have h2 := hg.size; simp at h2; omega
      · have h1 := hown.kept.size
        rw [hne k (by omega) (fun e => by have := (hown.row.lt k e.symm).1; omega)]
        exact hown.kept.block k hk hx
    · refine (hne B (lt_of_block hr) fun e => ?_).trans hr
      rcases hown.row.2 with ⟨rfl, _⟩ | ⟨g, cap, cur, rfl, _, hh, _⟩
      · cases e
      · simp only [Value.ownBlock, Option.some.injEq] at e
        subst e
        rw [hr] at hh
        simp only [Option.some.injEq, Obj.cells.injEq] at hh
        exact ht hh.2.1
set_option maxHeartbeats 400000 in
theorem digit (c : Int) (w : World) (h1 : 0 ≤ c) (h2 : c ≤ 255) : Calls Tryz.prog 22 #[.int .u8 c] w fun e w' => e = .returned (.bool (decide (48 ≤ c ∧ c ≤ 57))) ∧ w = w' := by
  by_cases h : 48 ≤ c
  · by_cases h3 : c ≤ 57
    · have hd : decide (48 ≤ c ∧ c ≤ 57) = true := by simp; omega
      rw [hd]
      go_enter Tryz.func22, Tryz.ntmps22
      go_wp2_with fail
      go_ret
      first | exact ⟨by simp, rfl⟩ | exact ⟨by simp; omega, rfl⟩
    · have hd : decide (48 ≤ c ∧ c ≤ 57) = false := by simp; omega
      rw [hd]
      go_enter Tryz.func22, Tryz.ntmps22
      go_wp2_with fail
      go_ret
      first | exact ⟨by simp, rfl⟩ | exact ⟨by simp; omega, rfl⟩
  · have hd : decide (48 ≤ c ∧ c ≤ 57) = false := by simp; omega
    rw [hd]
    go_enter Tryz.func22, Tryz.ntmps22
    go_wp2_with fail
    go_ret
    first | exact ⟨by simp, rfl⟩ | exact ⟨by simp; omega, rfl⟩
theorem digit_no (c : Int) (w : World) (h1 : 0 ≤ c) (h2 : c ≤ 255) (h : c < 48 ∨ 57 < c) : Calls Tryz.prog 22 #[.int .u8 c] w fun e w' => e = .returned (.bool false) ∧ w = w' := by
  have hd : decide (48 ≤ c ∧ c ≤ 57) = false := by simp; omega
  have := digit c w h1 h2
  rw [hd] at this
  exact this
set_option maxHeartbeats 400000 in
theorem white (c : Int) (w : World) (_h1 : 0 ≤ c) (_h2 : c ≤ 255) : Calls Tryz.prog 89 #[.int .u8 c] w fun e w' => RetB e ∧ w = w' := by
  go_enter Tryz.func89, Tryz.ntmps89
  go_wp2_with fail
  all_goals go_ret
  all_goals exact ⟨⟨_, rfl⟩, rfl⟩
def RetHex (e : Ending) : Prop := ∃ r : Int, -1 ≤ r ∧ r ≤ 15 ∧ e = .returned (.int .i64 r)
set_option maxHeartbeats 1000000 in
theorem hexd (c : Int) (w : World) (h1 : 0 ≤ c) (h2 : c ≤ 255) : Calls Tryz.prog 70 #[.int .u8 c] w fun e w' => RetHex e ∧ w = w' := by
  go_enter Tryz.func70, Tryz.ntmps70
  go_wp2_with (go_at_call 22; refine (digit _ _ h1 h2).mono ?_; rintro e w' ⟨rfl, rfl⟩)
  all_goals go_ret
  all_goals exact ⟨⟨_, by omega, by omega, rfl⟩, rfl⟩
set_option maxHeartbeats 1000000 in
theorem nameab (s : ByteArray) (w : World) (hs : s.size ≤ 140737488355000) : Calls Tryz.prog 45 #[.string s] w fun e w' => RetB e ∧ w = w' := by
  go_enter Tryz.func45, Tryz.ntmps45
  go_wp2_with fail
  go_loop [6] (fun vi => ∃ k : Nat, k ≤ s.size ∧ vi = .int .i64 k) (fun vi => s.size - (intOf vi).toNat)
  case atStart => exact ⟨0, by omega, rfl⟩
  case round =>
    obtain ⟨k, hk, rfl⟩ := hrel
    by_cases hlt : k < s.size
    · go_wp2_with fail
      · go_ret
        exact ⟨⟨_, rfl⟩, rfl⟩
      · exact ⟨⟨k + 1, by omega, by go_num⟩, by simp [intOf]; omega⟩
    · go_wp2_with fail
      go_ret
      exact ⟨⟨_, rfl⟩, rfl⟩
set_option maxHeartbeats 1000000 in
theorem signedw (s : ByteArray) (w : World) (hs : s.size ≤ 140737488355000) : Calls Tryz.prog 47 #[.string s] w fun e w' => RetB e ∧ w = w' := by
  go_enter Tryz.func47, Tryz.ntmps47
  go_wp2_with fail
  go_loop [6] (fun vi => ∃ k : Nat, k ≤ s.size ∧ vi = .int .i64 k) (fun vi => s.size - (intOf vi).toNat)
  case atStart => exact ⟨0, by omega, rfl⟩
  case round =>
    obtain ⟨k, hk, rfl⟩ := hrel
    by_cases hlt : k < s.size
    · go_wp2_with fail
      · go_ret
        exact ⟨⟨_, rfl⟩, rfl⟩
      · exact ⟨⟨k + 1, by omega, by go_num⟩, by simp [intOf]; omega⟩
    · go_wp2_with fail
      go_ret
      exact ⟨⟨_, rfl⟩, rfl⟩
def Alnum (c : Nat) : Prop := (48 ≤ c ∧ c ≤ 57) ∨ (97 ≤ c ∧ c ≤ 122) ∨ (65 ≤ c ∧ c ≤ 90)
structure Simp (s : ByteArray) : Prop where
  lo : 1 ≤ s.size
  hi : s.size ≤ 100
  ch : ∀ i (h : i < s.size), Alnum (s[i]'h).toNat
def SimpR (s : ByteArray) (e : Ending) : Prop := ∃ b : Bool, e = .returned (.bool b) ∧ (b = true → Simp s)
theorem emp_size (s : ByteArray) (h : s.toList.isEmpty = false) : 1 ≤ s.size := by
  rw [ByteArray.toList_eq] at h
  have : s.data.toList ≠ [] := by intro e; rw [e] at h; cases h
  have h2 : s.data.toList.length ≠ 0 := fun e => this (List.length_eq_zero_iff.1 e)
  have h3 : s.size = s.data.toList.length := by show s.data.size = _; simp
  omega
set_option maxHeartbeats 4000000 in
theorem simplew (s : ByteArray) (w : World) (hs : s.size ≤ 140737488355000) : Calls Tryz.prog 9 #[.string s] w fun e w' => SimpR s e ∧ w = w' := by
  go_enter Tryz.func9, Tryz.ntmps9
  go_wp2_with fail
  go_loop [7] (fun vi => ∃ k : Nat, k ≤ s.size ∧ vi = .int .i64 k ∧ ∀ j (h : j < s.size), j < k → Alnum (s[j]'h).toNat) (fun vi => s.size - (intOf vi).toNat)
  case atStart => exact ⟨0, by omega, rfl, fun j h hj => by omega⟩
  case round =>
    obtain ⟨k, hk, rfl, hal⟩ := hrel
    have HAL := Lib.hid hal; clear hal
    by_cases hlt : k < s.size
    · have hc := (s[k]'hlt).toNat_lt
      by_cases ha : Alnum (s[k]'hlt).toNat
      · have HA := Lib.hid ha
        rcases ha with ⟨a1, a2⟩ | ⟨a1, a2⟩ | ⟨a1, a2⟩
        all_goals
          go_wp2_with (go_at_call 22; refine (digit _ _ (by omega) (by omega)).mono ?_; rintro e w' ⟨rfl, rfl⟩)
          exact ⟨⟨k + 1, by omega, by go_num, fun j h hj => by
            by_cases e : j = k
            · subst e; exact HA.out
            · exact HAL.out j h (by omega)⟩, by simp [intOf]; omega⟩
      · have hr : (s[k]'hlt).toNat < 48 ∨ (57 < (s[k]'hlt).toNat ∧ (s[k]'hlt).toNat < 65) ∨ (90 < (s[k]'hlt).toNat ∧ (s[k]'hlt).toNat < 97) ∨ 122 < (s[k]'hlt).toNat := by unfold Alnum at ha; omega
        clear ha
        rcases hr with a1 | ⟨a1, a2⟩ | ⟨a1, a2⟩ | a1
        all_goals
          go_wp2_with (go_at_call 22; refine (digit_no _ _ (by omega) (by omega) (by omega)).mono ?_; rintro e w' ⟨rfl, rfl⟩)
          go_ret
          exact ⟨⟨_, rfl, fun h => by cases h⟩, rfl⟩
    · have hkk : k = s.size := by omega
      have HK := Lib.hid hkk; clear hkk
      go_wp2_with fail
      · go_ret
        exact ⟨⟨_, rfl, fun h => by cases h⟩, rfl⟩
      · go_ret
        exact ⟨⟨_, rfl, fun h => by
          simp only [Bool.and_eq_true, Bool.not_eq_true', decide_eq_true_eq] at h
          exact ⟨emp_size s h.1, by omega, fun i hi => HAL.out i hi (by have := HK.out; omega)⟩⟩, rfl⟩
end Go.Proofs.YtfkecmlmnhbmoaaGreatDoor
namespace Go.Proofs.YtfkecmlmnhbmoaaGreatDoor
open Go.RowKit
/-- A reader in the block R: its text, and how far it is. -/
def Rdr (w : World) (R : Nat) (s : ByteArray) (t : Nat) : Prop := ∃ (bad deep : Int) (odd ends : Bool), w.heap[R]? = some (.cells #[.string s, .int .i64 (t : Nat), .int .i64 bad, .int .i64 deep, .bool odd, .bool ends] 132 (0, 0))
section
variable {w : World} {R : Nat} {s : ByteArray} {t : Nat}
theorem Rdr.lt (h : Rdr w R s t) : R < w.heap.size := by obtain ⟨_, _, _, _, h⟩ := h; exact lt_of_block h
theorem Rdr.cells (h : Rdr w R s t) : w.cell? ⟨R, 0, none⟩ = some (.string s) ∧ w.cell? ⟨R, 1, none⟩ = some (.int .i64 (t : Nat)) ∧ (∃ b : Int, w.cell? ⟨R, 2, none⟩ = some (.int .i64 b)) ∧ (∃ b : Bool, w.cell? ⟨R, 4, none⟩ = some (.bool b)) ∧ (∃ b : Bool, w.cell? ⟨R, 5, none⟩ = some (.bool b)) ∧ ∀ o, w.frozen? ⟨R, o, none⟩ = false := by
  obtain ⟨bad, deep, odd, ends, h⟩ := h
  exact ⟨by simp [World.cell?, h], by simp [World.cell?, h], ⟨bad, by simp [World.cell?, h]⟩, ⟨odd, by simp [World.cell?, h]⟩, ⟨ends, by simp [World.cell?, h]⟩, fun o => by simp [World.frozen?, h]⟩
theorem Rdr.c0 (h : Rdr w R s t) : w.cell? ⟨R, 0, none⟩ = some (.string s) := h.cells.1
theorem Rdr.c1 (h : Rdr w R s t) : w.cell? ⟨R, 1, none⟩ = some (.int .i64 (t : Nat)) := h.cells.2.1
theorem Rdr.fr (h : Rdr w R s t) : ∀ o, w.frozen? ⟨R, o, none⟩ = false := h.cells.2.2.2.2.2
theorem Rdr.setAt (h : Rdr w R s t) (t' : Nat) : Rdr (w.setCell ⟨R, 1, none⟩ (.int .i64 (t' : Nat))) R s t' := by
  obtain ⟨bad, deep, odd, ends, h⟩ := h
  exact ⟨bad, deep, odd, ends, by rw [block_set h]; simp⟩
theorem Rdr.setAt' (h : Rdr w R s t) (t' : Nat) (x : Int) (e : x = t') : Rdr (w.setCell ⟨R, 1, none⟩ (.int .i64 x)) R s t' := by subst e; exact h.setAt t'
theorem Rdr.setBad (h : Rdr w R s t) (b : Int) : Rdr (w.setCell ⟨R, 2, none⟩ (.int .i64 b)) R s t := by
  obtain ⟨bad, deep, odd, ends, h⟩ := h
  exact ⟨b, deep, odd, ends, by rw [block_set h]; simp⟩
theorem Rdr.setOdd (h : Rdr w R s t) (b : Bool) : Rdr (w.setCell ⟨R, 4, none⟩ (.bool b)) R s t := by
  obtain ⟨bad, deep, odd, ends, h⟩ := h
  exact ⟨bad, deep, b, ends, by rw [block_set h]; simp⟩
theorem Rdr.setEnds (h : Rdr w R s t) (b : Bool) : Rdr (w.setCell ⟨R, 5, none⟩ (.bool b)) R s t := by
  obtain ⟨bad, deep, odd, ends, h⟩ := h
  exact ⟨bad, deep, odd, b, by rw [block_set h]; simp⟩
theorem Rdr.same {w' : World} (h : Rdr w R s t) (e : w'.heap[R]? = w.heap[R]?) : Rdr w' R s t := by
  obtain ⟨bad, deep, odd, ends, h⟩ := h
  exact ⟨bad, deep, odd, ends, e.trans h⟩
theorem Rdr.drewN (h : Rdr w R s t) (n : Nat) : Rdr (w.drewN n) R s t := h.same (by rw [Tryz.drewN_heap])
end
/-- fail: something is noted, or not. -/
def FailR (e : Ending) : Prop := ∃ v, e = .returned v
set_option maxRecDepth 100000 in
set_option maxHeartbeats 2000000 in
theorem rfail (R : Nat) (s : ByteArray) (t : Nat) (b : Int) (w : World) (hR : Rdr w R s t) : Calls Tryz.prog 88 #[.pointer (some ⟨R, 0, none⟩), .int .i64 b] w fun e w' => FailR e ∧ Rdr w' R s t ∧ Kept [R] w w' := by
  obtain ⟨c0, c1, ⟨bad, c2⟩, _, _, hf⟩ := hR.cells
  have hlt := hR.lt
  have hne : R ≠ w.heap.size := by omega
  have hb := heap_at (w := w) (o := .cells #[.int .i64 0, .int .i64 0, .int .i64 0, .float .f64 0, .string ⟨#[]⟩, .slice none 0 0, .slice none 0 0] 31) rfl
  obtain ⟨⟨k0, k1, k2, k3, k4, k5, k6⟩, f0, f1, f2, f3, f4, f5, f6⟩ := seven hb
  have hoff := cell_set_off
  have r0 := fun (X : World) (i j : Nat) (u : Value) => cell_set_other hne i j X u
  have hN : w.heap.size ≤ w.heap.size := Nat.le_refl _
  have HB := Lib.hid hb; clear hb
  go_enter Tryz.func88, Tryz.ntmps88
  go_wp2_with fail
  · refine bodyPost_ret (v := .agg #[.int .i64 0, .int .i64 0, .int .i64 0, .float .f64 0, .string ⟨#[]⟩, .slice none 0 0, .slice none 0 0]) (by simp [results, Tryz.results88, go_sem]) rfl ⟨⟨_, rfl⟩, ?_, ?_⟩
    · exact (hR.setBad b).same (heap_lt (by simpa using hlt))
    · exact ((Kept.refl [R] w).set1 2 (.int .i64 b)).alloc _
  · refine bodyPost_ret (v := .agg #[.int .i64 0, .int .i64 0, .int .i64 0, .float .f64 0, .string ⟨#[]⟩, .slice none 0 0, .slice none 0 0]) (by simp [results, Tryz.results88, go_sem, k0, k1, k2, k3, k4, k5, k6]) rfl ⟨⟨_, rfl⟩, ?_, ?_⟩
    · exact hR.same (heap_lt hlt)
    · exact (Kept.refl [R] w).alloc _
theorem wrap8 (x : Int) : 0 ≤ IntKind.u8.wrap x ∧ IntKind.u8.wrap x ≤ 255 := by rw [IntKind.wrap_u8]; omega
def EscR (e : Ending) : Prop := ∃ (c : Int) (b : Bool), 0 ≤ c ∧ c ≤ 255 ∧ e = .returned (.tuple #[.int .u8 c, .bool b])
def EscT (R : Nat) (s : ByteArray) (t : Nat) (w w' : World) : Prop := ∃ t', t ≤ t' ∧ t' ≤ s.size ∧ Rdr w' R s t' ∧ Kept [R] w w'
def EscL (R : Nat) (s : ByteArray) (t : Nat) (w : World) (vo vn : Value) (wr : World) : Prop := ∃ (o n : Int) (t' : Nat), vo = .int .i64 o ∧ vn = .int .i64 n ∧ 1 ≤ n ∧ n ≤ 3 ∧ 0 ≤ o ∧ (n = 1 → o ≤ 7) ∧ (n = 2 → o ≤ 63) ∧ o ≤ 511 ∧ t ≤ t' ∧ t' ≤ s.size ∧ Rdr wr R s t' ∧ Kept [R] w wr
set_option maxRecDepth 100000 in
set_option maxHeartbeats 8000000 in
theorem escape (R : Nat) (s : ByteArray) (t : Nat) (w : World) (hR : Rdr w R s t) (ht : t ≤ s.size) (hs : s.size ≤ 140737488355000) : Calls Tryz.prog 87 #[.pointer (some ⟨R, 0, none⟩)] w fun e w' => EscR e ∧ EscT R s t w w' := by
  obtain ⟨c0, c1, _, _, _, hf⟩ := hR.cells
  by_cases hlt : t < s.size
  · have hb := (s[t]'hlt).toNat_lt
    go_enter Tryz.func87, Tryz.ntmps87
    go_wp2_with fail
    go_quiet (fail)
    have hR1 := hR.drewN nq
    have hK1 := (Kept.refl [R] w).drewN nq
    generalize w.drewN nq = w1 at hR1 hK1 ⊢
    clear c0 c1 hf hR
    obtain ⟨c0, c1, _, _, _, hf⟩ := hR1.cells
    go_wp2_with fail
    go_quiet (fail)
    have hR2 := hR1.drewN nq
    have hK2 := hK1.drewN nq
    generalize w1.drewN nq = w2 at hR2 hK2 ⊢
    clear c0 c1 hf hR1 hK1
    obtain ⟨c0, c1, _, _, _, hf⟩ := hR2.cells
    go_wp2_with fail
    all_goals try (go_ret2; exact ⟨⟨_, _, by omega, by omega, rfl⟩, t + 1, by omega, by omega, hR2.setAt (t + 1), hK2.set1 1 _⟩)
    all_goals
      obtain ⟨t1, ht1⟩ : ∃ t1, t1 = t + 1 := ⟨_, rfl⟩
      obtain ⟨W, hW⟩ : ∃ W, W = (w2.setCell ⟨R, 1, none⟩ (.int .i64 ((t : Int) + 1))) := ⟨_, rfl⟩
      have hR1 : Rdr W R s t1 := by rw [hW, ht1]; exact hR2.setAt' _ _ (by omega)
      have hK1 : Kept [R] w W := by rw [hW]; exact hK2.set1 1 _
      rw [← hW]
      have ht2 : t1 ≤ s.size := by omega
      have ht3 : t ≤ t1 := by omega
      clear hW ht1 c0 c1 hR2 hK2 hf
      obtain ⟨c0, c1, _, _, _, hf⟩ := hR1.cells
    · by_cases hl2 : t1 < s.size
      · have hb2 := (s[t1]'hl2).toNat_lt
        by_cases h10 : (s[t1]'hl2).toNat = 10
        · have z10 : (((s[t1]'hl2).toNat : Int) == 10) = true := beq_iff_eq.2 (by omega)
          have H10 := Lib.hid h10; clear h10
          go_quiet (fail)
          go_wp2_with fail
          go_ret2
          exact ⟨⟨_, _, by omega, by omega, rfl⟩, t1 + 1, by omega, by omega, (hR1.drewN _).setAt (t1 + 1), (hK1.drewN _).set1 1 _⟩
        · have z10 : (((s[t1]'hl2).toNat : Int) == 10) = false := beq_eq_false_iff_ne.2 (by omega)
          go_quiet (fail)
          go_wp2_with fail
          go_ret2
          exact ⟨⟨_, _, by omega, by omega, rfl⟩, t1, by omega, by omega, hR1.drewN _, hK1.drewN _⟩
      · go_quiet (fail)
        go_wp2_with fail
        go_ret2
        exact ⟨⟨_, _, by omega, by omega, rfl⟩, t1, by omega, by omega, hR1.drewN _, hK1.drewN _⟩
    · go_loopw [5, 6] (EscL R s t w) (fun _ _ wr => s.size - (intOf ((wr.cell? ⟨R, 1, none⟩).getD default)).toNat)
      case atStart => exact ⟨_, 1, t1, rfl, rfl, by omega, by omega, by omega, fun _ => by omega, fun h => by omega, by omega, ht3, ht2, hR1, hK1⟩
      case round =>
        clear c0 c1 hf hR1 hK1
        obtain ⟨o, n, t', rfl, rfl, n1, n2, o1, o2, o3, o4, ht5, ht6, hR1, hK1⟩ := hrel
        obtain ⟨c0, c1, _, _, _, hf⟩ := hR1.cells
        by_cases hl2 : t' < s.size
        · have hb2 := (s[t']'hl2).toNat_lt
          by_cases h3 : n < 3
          · by_cases h48 : 48 ≤ (s[t']'hl2).toNat
            · have z48 : decide ((48 : Int) ≤ ((s[t']'hl2).toNat : Int)) = true := by simp; omega
              by_cases h55 : (s[t']'hl2).toNat ≤ 55
              · have z55 : decide (((s[t']'hl2).toNat : Int) ≤ 55) = true := by simp; omega
                go_wp2_with fail
                go_quiet (fail)
                go_wp2_with fail
                go_quiet (fail)
                go_wp2_with fail
                refine ⟨⟨8 * o + (((s[t']'hl2).toNat : Int) - 48), n + 1, t' + 1, rfl, rfl, by omega, by omega, by omega, by omega, by omega, by omega, by omega, by omega, (hR1.drewN _).setAt (t' + 1), (hK1.drewN _).set1 1 _⟩, ?_⟩
                rw [((hR1.drewN _).setAt' (t' + 1) ((t' : Int) + 1) (by omega)).cells.2.1, c1]
                simp [intOf]; omega
              · have z55 : decide (((s[t']'hl2).toNat : Int) ≤ 55) = false := by simp; omega
                go_wp2_with fail
                go_quiet (fail)
                go_wp2_with fail
                go_ret2
                exact ⟨⟨_, _, (wrap8 _).1, (wrap8 _).2, rfl⟩, t', by omega, by omega, hR1.drewN _, hK1.drewN _⟩
            · have z48 : decide ((48 : Int) ≤ ((s[t']'hl2).toNat : Int)) = false := by simp; omega
              go_wp2_with fail
              go_quiet (fail)
              go_wp2_with fail
              go_ret2
              exact ⟨⟨_, _, (wrap8 _).1, (wrap8 _).2, rfl⟩, t', by omega, by omega, hR1.drewN _, hK1.drewN _⟩
          · have z3 : decide (n < 3) = false := by simp; omega
            go_wp2_with fail
            go_quiet (fail)
            go_wp2_with fail
            go_ret2
            exact ⟨⟨_, _, (wrap8 _).1, (wrap8 _).2, rfl⟩, t', by omega, by omega, hR1.drewN _, hK1.drewN _⟩
        · go_wp2_with fail
          go_quiet (fail)
          go_wp2_with fail
          go_ret2
          exact ⟨⟨_, _, (wrap8 _).1, (wrap8 _).2, rfl⟩, t', by omega, by omega, hR1.drewN _, hK1.drewN _⟩
  · go_enter Tryz.func87, Tryz.ntmps87
    go_wp2_with fail
    go_quiet (fail)
    go_wp2_with fail
    go_ret2
    exact ⟨⟨_, _, by omega, by omega, rfl⟩, t, by omega, by omega, hR.drewN _, (Kept.refl _ _).drewN _⟩
end Go.Proofs.YtfkecmlmnhbmoaaGreatDoor
namespace Go.Proofs.YtfkecmlmnhbmoaaGreatDoor
open Go.RowKit
theorem Rdr.keep {W w' : World} {R : Nat} {s : ByteArray} {t : Nat} (h : Rdr W R s t) (k : ∀ (B : Nat) (cs : Array Value) (t : Nat) (f : Nat × Nat), W.heap[B]? = some (.cells cs t f) → t ≠ 5 → w'.heap[B]? = some (.cells cs t f)) : Rdr w' R s t := by
  obtain ⟨bad, deep, odd, ends, h⟩ := h
  exact ⟨bad, deep, odd, ends, k _ _ _ _ h (by decide)⟩
theorem Own.rdr {a0 w w' : World} {v : Value} {bs : List Int} {R t : Nat} {s : ByteArray} (h : Own a0 w v bs) (hk : Kept [R] w w') (hR : Rdr w R s t) (h0 : a0.heap.size ≤ R) : Own a0 w' v bs := by
  obtain ⟨bad, deep, odd, ends, hb⟩ := hR
  exact h.off hk hb (by decide) h0
theorem own_nil {a0 w : World} (h : Kept [] a0 w) : Own a0 w (.slice none 0 0) [] := ⟨⟨rfl, Or.inl ⟨rfl, rfl⟩⟩, h⟩
theorem conv_own {a0 W : World} {v : Value} {bs : List Int} (h : Own a0 W v bs) : (convert 105 9 v).run Tryz.prog W = .ok (.string (strOfNums bs)) W := by
  rcases h.row.2 with ⟨rfl, hl⟩ | ⟨g, cap, cur, rfl, _⟩
  · have : bs = [] := by simpa using hl
    subst this
    exact run_convert_bytes_nil W 105 5 Tryz.underlying105 Tryz.underlying5 0 0 9 Tryz.underlying9
  · exact run_convert_bytes_arg (P := Tryz.prog) W 105 5 Tryz.underlying105 Tryz.underlying5 g 0 bs.length cap bs rfl (fun i hi => by
      have := h.row.cells (g := g) rfl i (.int .u8 (bs.getD i 0)) (by simp [List.getD, List.getElem?_eq_getElem hi])
      rw [Addr.add_lit] at this
      exact this) 9 Tryz.underlying9
def LitR (s : ByteArray) (e : Ending) : Prop := ∃ str : ByteArray, e = .returned (.string str) ∧ str.size + 2 ≤ s.size
def LitE (s : ByteArray) (R : Nat) (a0 w' : World) : Prop := Kept [] a0 w' ∧ ∃ t, Rdr w' R s t
def LitL (s : ByteArray) (R : Nat) (a0 : World) (vo vn : Value) (wr : World) : Prop := ∃ (t : Nat) (bs : List Int) (op : Int), vn = .int .i64 op ∧ t ≤ s.size ∧ ((t = 0 ∧ bs = [] ∧ op = 0) ∨ bs.length + 1 ≤ t) ∧ -(t : Int) ≤ op ∧ op ≤ t ∧ Own a0 wr vo bs ∧ Rdr wr R s t
theorem rdr_meas {w1 w2 : World} {R t1 t2 : Nat} {s : ByteArray} (h1 : Rdr w1 R s t1) (h2 : Rdr w2 R s t2) (h : t2 < t1) (h3 : t1 ≤ s.size) :
    s.size - (intOf ((w1.cell? ⟨R, 1, none⟩).getD default)).toNat < s.size - (intOf ((w2.cell? ⟨R, 1, none⟩).getD default)).toNat := by
  rw [h1.cells.2.1, h2.cells.2.1]
  simp [intOf]; omega
set_option maxRecDepth 100000 in
set_option maxHeartbeats 8000000 in
theorem rlit (R : Nat) (s : ByteArray) (a0 w : World) (hR : Rdr w R s 0) (hA : Kept [] a0 w) (h0 : a0.heap.size ≤ R) (hs1 : 2 ≤ s.size) (hs : s.size ≤ 140737488354000) (hf0 : (s[0]'(by omega)).toNat = 40) :
    Calls Tryz.prog 69 #[.pointer (some ⟨R, 0, none⟩)] w fun e w' => LitR s e ∧ LitE s R a0 w' := by
  have HF0 := Lib.hid hf0; clear hf0
  go_enter Tryz.func69, Tryz.ntmps69
  go_wp2_with fail
  go_loopw [3, 4] (LitL s R a0) (fun _ _ wr => s.size - (intOf ((wr.cell? ⟨R, 1, none⟩).getD default)).toNat)
  case atStart => exact ⟨0, [], 0, rfl, by omega, .inl ⟨rfl, rfl, rfl⟩, by omega, by omega, own_nil hA, hR⟩
  case round =>
    clear hR hA
    obtain ⟨t, bs, op, rfl, ht, hbs, ho1, ho2, hO, hRr⟩ := hrel
    have c0 := hRr.c0; have c1 := hRr.c1; have hf := hRr.fr
    by_cases hlt : t < s.size
    · have hb := (s[t]'hlt).toNat_lt
      have HB := Lib.hid hbs; clear hbs
      go_wp2_with fail
      go_quiet (fail)
      have hR1 := hRr.drewN nq
      have hK1 := (Kept.refl [R] wr).drewN nq
      generalize wr.drewN nq = w1 at hR1 hK1 ⊢
      clear c0 c1 hf
      have c0 := hR1.c0; have c1 := hR1.c1; have hf := hR1.fr
      go_wp2_with fail
      go_quiet (fail)
      have hR2 := hR1.drewN nq
      have hK2 := hK1.drewN nq
      generalize w1.drewN nq = w2 at hR2 hK2 ⊢
      clear c0 c1 hf hR1 hK1
      have c0 := hR2.c0; have c1 := hR2.c1; have hf := hR2.fr
      have hR3 := hR2.setAt' (t + 1) ((t : Int) + 1) (by omega)
      have hO3 := (hO.rdr hK2 hRr h0).rdr ((Kept.refl [R] w2).set1 1 (.int .i64 ((t : Int) + 1))) hR2 h0
      by_cases h0t : t = 0
      · have z40 : (((s[t]'hlt).toNat : Int) == 40) = true := by have := HF0.out; subst h0t; exact beq_iff_eq.2 (by omega)
        have hbn : bs = [] ∧ op = 0 := by rcases HB.out with ⟨_, h1, h2⟩ | h; exact ⟨h1, h2⟩; omega
        obtain ⟨rfl, rfl⟩ := hbn
        have HT := Lib.hid h0t; clear h0t
        go_wp2_with fail
        exact ⟨⟨t + 1, [], 1, rfl, by omega, .inr (by simp), by omega, by omega, hO3, hR3⟩, rdr_meas hR3 hRr (by omega) (by omega)⟩
      · have hbl : bs.length + 1 ≤ t := by rcases HB.out with ⟨h, _⟩ | h; omega; exact h
        by_cases h40 : (s[t]'hlt).toNat = 40
        · have z40 : (((s[t]'hlt).toNat : Int) == 40) = true := beq_iff_eq.2 (by omega)
          have H40 := Lib.hid h40; clear h40
          by_cases hop : op = 0
          · subst hop
            go_wp2_with fail
            exact ⟨⟨t + 1, bs, 1, rfl, by omega, .inr (by omega), by omega, by omega, hO3, hR3⟩, rdr_meas hR3 hRr (by omega) (by omega)⟩
          · have zop : (op + 1 == 1) = false := beq_eq_false_iff_ne.2 (by omega)
            go_wp2_with (at_builtin; go_must (refine appB2 rfl _ _ rfl hO3 rfl rfl (by simp) (by omega) ?_; intro v2 w9 hO2 hk2))
            have hR9 := hR3.keep hk2
            exact ⟨⟨t+1, _, op+1, rfl, by omega, .inr (by simp; omega), by omega, by omega, hO2, hR9⟩, rdr_meas hR9 hRr (by omega) (by omega)⟩
        · have z40 : (((s[t]'hlt).toNat : Int) == 40) = false := beq_eq_false_iff_ne.2 (by omega)
          by_cases h41 : (s[t]'hlt).toNat = 41
          · have z41 : (((s[t]'hlt).toNat : Int) == 41) = true := beq_iff_eq.2 (by omega)
            have H41 := Lib.hid h41; clear h41
            by_cases hop : op = 1
            · subst hop
              have hcv := conv_own hO3
              go_wp2_with fail
              go_ret
              exact ⟨⟨_, rfl, by rw [strOfNums_size]; omega⟩, hO3.kept, _, hR3⟩
            · have zop : (op - 1 == 0) = false := beq_eq_false_iff_ne.2 (by omega)
              go_wp2_with (at_builtin; go_must (refine appB2 rfl _ _ rfl hO3 rfl rfl (by simp) (by omega) ?_; intro v2 w9 hO2 hk2))
              have hR9 := hR3.keep hk2
              exact ⟨⟨t+1, _, op-1, rfl, by omega, .inr (by simp; omega), by omega, by omega, hO2, hR9⟩, rdr_meas hR9 hRr (by omega) (by omega)⟩
          · have z41 : (((s[t]'hlt).toNat : Int) == 41) = false := beq_eq_false_iff_ne.2 (by omega)
            by_cases h13 : (s[t]'hlt).toNat = 13
            · have z13 : (((s[t]'hlt).toNat : Int) == 13) = true := beq_iff_eq.2 (by omega)
              have H13 := Lib.hid h13; clear h13
              go_wp2_with fail
              obtain ⟨W, hW⟩ : ∃ W, W = w2.setCell ⟨R, 1, none⟩ (.int .i64 ((t : Int) + 1)) := ⟨_, rfl⟩
              obtain ⟨t1, ht1⟩ : ∃ t1, t1 = t + 1 := ⟨_, rfl⟩
              rw [← hW] at hR3 hO3 ⊢
              rw [← ht1] at hR3
              have ht2 : t1 ≤ s.size := by omega
              have ht3 : t < t1 := by omega
              have ht4 : t1 ≤ t + 1 := by omega
              clear hW ht1 c0 c1 hf hR2 hK2
              have c0 := hR3.c0; have c1 := hR3.c1; have hf := hR3.fr
              by_cases hl2 : t1 < s.size
              · have hb2 := (s[t1]'hl2).toNat_lt
                by_cases h10 : (s[t1]'hl2).toNat = 10
                · have z10 : (((s[t1]'hl2).toNat : Int) == 10) = true := beq_iff_eq.2 (by omega)
                  have H10 := Lib.hid h10; clear h10
                  go_quiet (fail)
                  have hR4 := hR3.drewN nq
                  have hO4 := hO3.drewN nq
                  generalize W.drewN nq = w4 at hR4 hO4 ⊢
                  clear c0 c1 hf hR3 hO3
                  have c0 := hR4.c0; have c1 := hR4.c1; have hf := hR4.fr
                  have hR5 := hR4.setAt' (t1 + 1) ((t1 : Int) + 1) (by omega)
                  have hO5 := hO4.rdr ((Kept.refl [R] w4).set1 1 (.int .i64 ((t1 : Int) + 1))) hR4 h0
                  go_wp2_with (at_builtin; go_must (refine appB2 rfl _ _ rfl hO5 rfl rfl (by simp) (by omega) ?_; intro v2 w9 hO2 hk2))
                  have hR9 := hR5.keep hk2
                  exact ⟨⟨t1+1, _, op, rfl, by omega, .inr (by simp; omega), by omega, by omega, hO2, hR9⟩, rdr_meas hR9 hRr (by omega) (by omega)⟩
                · have z10 : (((s[t1]'hl2).toNat : Int) == 10) = false := beq_eq_false_iff_ne.2 (by omega)
                  go_quiet (fail)
                  have hR4 := hR3.drewN nq
                  have hO4 := hO3.drewN nq
                  go_wp2_with (at_builtin; go_must (refine appB2 rfl _ _ rfl hO4 rfl rfl (by simp) (by omega) ?_; intro v2 w9 hO2 hk2))
                  have hR9 := hR4.keep hk2
                  exact ⟨⟨t1, _, op, rfl, by omega, .inr (by simp; omega), by omega, by omega, hO2, hR9⟩, rdr_meas hR9 hRr (by omega) (by omega)⟩
              · go_quiet (fail)
                have hR4 := hR3.drewN nq
                have hO4 := hO3.drewN nq
                go_wp2_with (at_builtin; go_must (refine appB2 rfl _ _ rfl hO4 rfl rfl (by simp) (by omega) ?_; intro v2 w9 hO2 hk2))
                have hR9 := hR4.keep hk2
                exact ⟨⟨t1, _, op, rfl, by omega, .inr (by simp; omega), by omega, by omega, hO2, hR9⟩, rdr_meas hR9 hRr (by omega) (by omega)⟩
            · have z13 : (((s[t]'hlt).toNat : Int) == 13) = false := beq_eq_false_iff_ne.2 (by omega)
              by_cases h92 : (s[t]'hlt).toNat = 92
              · have z92 : (((s[t]'hlt).toNat : Int) == 92) = true := beq_iff_eq.2 (by omega)
                have H92 := Lib.hid h92; clear h92
                go_wp2_with fail
                refine (escape R s (t + 1) _ hR3 (by omega) (by omega)).mono ?_
                rintro e w4 ⟨⟨x, b, x1, x2, rfl⟩, t4, a1, a2, hR4, hK4⟩
                have hO4 := hO3.rdr hK4 hR3 h0
                clear c0 c1 hf hR3 hO3 hR2 hK2 hK4
                cases b
                · go_wp2_with fail
                  exact ⟨⟨t4, bs, op, rfl, by omega, .inr (by omega), by omega, by omega, hO4, hR4⟩, rdr_meas hR4 hRr (by omega) (by omega)⟩
                · skip
                  go_wp2_with (at_builtin; go_must (refine appB2 rfl _ _ rfl hO4 rfl rfl (by simp) (by omega) ?_; intro v2 w9 hO2 hk2))
                  have hR9 := hR4.keep hk2
                  exact ⟨⟨t4, _, op, rfl, by omega, .inr (by simp; omega), by omega, by omega, hO2, hR9⟩, rdr_meas hR9 hRr (by omega) (by omega)⟩
              · have z92 : (((s[t]'hlt).toNat : Int) == 92) = false := beq_eq_false_iff_ne.2 (by omega)
                go_wp2_with (at_builtin; go_must (refine appB2 rfl _ _ rfl hO3 rfl rfl (by simp) (by omega) ?_; intro v2 w9 hO2 hk2))
                have hR9 := hR3.keep hk2
                exact ⟨⟨t+1, _, op, rfl, by omega, .inr (by simp; omega), by omega, by omega, hO2, hR9⟩, rdr_meas hR9 hRr (by omega) (by omega)⟩
    · obtain ⟨be, c5⟩ := hRr.cells.2.2.2.2.1
      go_wp2_with fail
      go_quiet (fail)
      have hR1 := hRr.drewN nq
      have hO1 := hO.drewN nq
      generalize wr.drewN nq = w1 at hR1 hO1 ⊢
      clear c0 c1 c5 hf
      obtain ⟨be, c5⟩ := hR1.cells.2.2.2.2.1
      have hf := hR1.fr
      go_wp2_with fail
      have hR2 := hR1.setEnds true
      have hO2 := hO1.rdr ((Kept.refl [R] w1).set1 5 (.bool true)) hR1 h0
      refine (rfail R s t 1 _ hR2).mono ?_
      rintro e w4 ⟨⟨v, rfl⟩, hR4, hK4⟩
      have hO4 := hO2.rdr hK4 hR2 h0
      go_wp2_with fail
      go_ret
      exact ⟨⟨_, rfl, by show 0 + 2 ≤ s.size; omega⟩, hO4.kept, _, hR4⟩
end Go.Proofs.YtfkecmlmnhbmoaaGreatDoor
namespace Go.Proofs.YtfkecmlmnhbmoaaGreatDoor
open Go.RowKit
def o1 (b : Bool) : Nat := if b then 1 else 0
def HexL (s : ByteArray) (R : Nat) (a0 : World) (vo vh vd : Value) (wr : World) : Prop := ∃ (t : Nat) (bs : List Int) (h : Int) (od : Bool), vh = .int .i64 h ∧ vd = .bool od ∧ -1 ≤ h ∧ h ≤ 15 ∧ t ≤ s.size ∧ bs.length + o1 od + 1 ≤ t ∧ Own a0 wr vo bs ∧ Rdr wr R s t
set_option maxRecDepth 100000 in
set_option maxHeartbeats 8000000 in
theorem rhex (R : Nat) (s : ByteArray) (a0 w : World) (hR : Rdr w R s 0) (hA : Kept [] a0 w) (h0 : a0.heap.size ≤ R) (hs1 : 2 ≤ s.size) (hs : s.size ≤ 140737488354000) :
    Calls Tryz.prog 71 #[.pointer (some ⟨R, 0, none⟩)] w fun e w' => LitR s e ∧ LitE s R a0 w' := by
  have c0 := hR.c0; have c1 := hR.c1; have hf := hR.fr
  have hR0 := hR.setAt' 1 1 rfl
  have hO0 := (own_nil hA).rdr ((Kept.refl [R] w).set1 1 (.int .i64 1)) hR h0
  go_enter Tryz.func71, Tryz.ntmps71
  go_wp2_with fail
  clear c0 c1 hf
  go_loopw [3, 4, 5] (HexL s R a0) (fun _ _ _ wr => s.size - (intOf ((wr.cell? ⟨R, 1, none⟩).getD default)).toNat)
  case atStart => exact ⟨1, [], 0, false, rfl, rfl, by omega, by omega, by omega, by simp [o1], hO0, hR0⟩
  case round =>
    clear hR hA hR0 hO0
    obtain ⟨t, bs, h, od, rfl, rfl, hh1, hh2, ht, hbl, hO, hRr⟩ := hrel
    have c0 := hRr.c0; have c1 := hRr.c1; have hf := hRr.fr
    by_cases hlt : t < s.size
    · have hb := (s[t]'hlt).toNat_lt
      go_wp2_with fail
      go_quiet (fail)
      have hR1 := hRr.drewN nq
      have hK1 := (Kept.refl [R] wr).drewN nq
      generalize wr.drewN nq = w1 at hR1 hK1 ⊢
      clear c0 c1 hf
      have c0 := hR1.c0; have c1 := hR1.c1; have hf := hR1.fr
      go_wp2_with fail
      go_quiet (fail)
      have hR2 := hR1.drewN nq
      have hK2 := hK1.drewN nq
      generalize w1.drewN nq = w2 at hR2 hK2 ⊢
      clear c0 c1 hf hR1 hK1
      have c0 := hR2.c0; have c1 := hR2.c1; have hf := hR2.fr
      have hR3 := hR2.setAt' (t + 1) ((t : Int) + 1) (by omega)
      have hO3 := (hO.rdr hK2 hRr h0).rdr ((Kept.refl [R] w2).set1 1 (.int .i64 ((t : Int) + 1))) hR2 h0
      by_cases h62 : (s[t]'hlt).toNat = 62
      · have z62 : (((s[t]'hlt).toNat : Int) == 62) = true := beq_iff_eq.2 (by omega)
        have H62 := Lib.hid h62; clear h62
        cases od
        · have hcv := conv_own hO3
          go_wp2_with fail
          go_ret
          exact ⟨⟨_, rfl, by rw [strOfNums_size]; simp [o1] at hbl; omega⟩, hO3.kept, _, hR3⟩
        · go_wp2_with (at_builtin; go_must (refine appB2 rfl _ _ rfl hO3 rfl rfl (by simp) (by omega) ?_; intro v2 w9 hO2 hk2; have hcv := conv_own hO2))
          go_ret
          exact ⟨⟨_, rfl, by rw [strOfNums_size]; simp [o1] at hbl ⊢; omega⟩, hO2.kept, _, hR3.keep hk2⟩
      · have z62 : (((s[t]'hlt).toNat : Int) == 62) = false := beq_eq_false_iff_ne.2 (by omega)
        go_wp2_with fail
        obtain ⟨W, hW⟩ : ∃ W, W = w2.setCell ⟨R, 1, none⟩ (.int .i64 ((t : Int) + 1)) := ⟨_, rfl⟩
        obtain ⟨t1, ht1⟩ : ∃ t1, t1 = t + 1 := ⟨_, rfl⟩
        rw [← hW] at hR3 hO3 ⊢
        rw [← ht1] at hR3
        have ht2 : t1 ≤ s.size := by omega
        have ht3 : t < t1 := by omega
        have ht4 : t1 ≤ t + 1 := by omega
        clear hW ht1 c0 c1 hf hR2 hK2
        have hf := hR3.fr
        refine (white _ _ (by omega) (by omega)).mono ?_
        rintro e w' ⟨⟨b, rfl⟩, rfl⟩
        cases b
        · go_wp2_with fail
          refine (hexd _ _ (by omega) (by omega)).mono ?_
          rintro e w' ⟨⟨r, r1, r2, rfl⟩, rfl⟩
          by_cases hr : r < 0
          · go_wp2_with fail
            refine (rfail R s t1 2 _ hR3).mono ?_
            rintro e w4 ⟨⟨v, rfl⟩, hR4, hK4⟩
            have hO4 := hO3.rdr hK4 hR3 h0
            go_wp2_with fail
            go_ret
            exact ⟨⟨_, rfl, by show 0 + 2 ≤ s.size; omega⟩, hO4.kept, _, hR4⟩
          · cases od
            · go_wp2_with fail
              refine (hexd _ _ (by omega) (by omega)).mono ?_
              rintro e w' ⟨⟨q, q1, q2, rfl⟩, rfl⟩
              go_wp2_with fail
              exact ⟨⟨t1, bs, q, true, rfl, rfl, q1, q2, ht2, by simp [o1] at hbl ⊢; omega, hO3, hR3⟩, rdr_meas hR3 hRr (by omega) (by omega)⟩
            · go_wp2_with fail
              refine (hexd _ _ (by omega) (by omega)).mono ?_
              rintro e w' ⟨⟨q, q1, q2, rfl⟩, rfl⟩
              go_wp2_with (at_builtin; go_must (refine appB2 rfl _ _ rfl hO3 rfl rfl (by simp) (by omega) ?_; intro v2 w9 hO2 hk2))
              have hR9 := hR3.keep hk2
              exact ⟨⟨t1, _, h, false, rfl, rfl, hh1, hh2, ht2, by simp [o1] at hbl ⊢; omega, hO2, hR9⟩, rdr_meas hR9 hRr (by omega) (by omega)⟩
        · obtain ⟨bo, c4⟩ := hR3.cells.2.2.2.1
          cases bo <;> cases od
          all_goals
            go_wp2_with fail
            exact ⟨⟨t1, bs, h, _, rfl, rfl, hh1, hh2, ht2, by simp [o1] at hbl ⊢; omega, hO3.rdr ((Kept.refl [R] W).set1 4 _) hR3 h0, hR3.setOdd _⟩, rdr_meas (hR3.setOdd _) hRr (by omega) (by omega)⟩
    · go_wp2_with fail
      go_quiet (fail)
      have hR1 := hRr.drewN nq
      have hO1 := hO.drewN nq
      generalize wr.drewN nq = w1 at hR1 hO1 ⊢
      clear c0 c1 hf
      go_wp2_with fail
      refine (rfail R s t 1 _ hR1).mono ?_
      rintro e w4 ⟨⟨v, rfl⟩, hR4, hK4⟩
      have hO4 := hO1.rdr hK4 hR1 h0
      go_wp2_with fail
      go_ret
      exact ⟨⟨_, rfl, by show 0 + 2 ≤ s.size; omega⟩, hO4.kept, _, hR4⟩
def SBR (s : ByteArray) (e : Ending) : Prop := ∃ (str : ByteArray) (b : Bool), e = .returned (.tuple #[.string str, .bool b]) ∧ str.size ≤ s.size
theorem wrap_size (a b : UInt8) (s : ByteArray) : ((⟨#[a]⟩ : ByteArray) ++ s ++ ⟨#[b]⟩).size = s.size + 2 := by
  rw [ByteArray.size_append, ByteArray.size_append]
  show 1 + s.size + 1 = s.size + 2
  omega
theorem wrap_first (a b : UInt8) (s : ByteArray) (h : 0 < ((⟨#[a]⟩ : ByteArray) ++ s ++ ⟨#[b]⟩).size) : ((⟨#[a]⟩ : ByteArray) ++ s ++ ⟨#[b]⟩)[0]'h = a := by
  rw [ByteArray.getElem_append_left (by rw [ByteArray.size_append]; show 0 < 1 + s.size; omega), ByteArray.getElem_append_left (by show 0 < 1; omega)]
  rfl
set_option maxRecDepth 100000 in
set_option maxHeartbeats 4000000 in
theorem litb (s : ByteArray) (w : World) (hs : s.size ≤ 140737488353000) : Calls Tryz.prog 43 #[.string s] w fun e w' => SBR s e ∧ Kept [] w w' := by
  obtain ⟨q, hq⟩ : ∃ q, q = (⟨#[40]⟩ : ByteArray) ++ s ++ ⟨#[41]⟩ := ⟨_, rfl⟩
  have hqs : q.size = s.size + 2 := by rw [hq]; exact wrap_size _ _ _
  have hq2 : 2 ≤ q.size := by omega
  have hq0 : 0 < q.size := by omega
  have hqf : (q[0]'hq0).toNat = 40 := by
    subst hq
    rw [wrap_first]; rfl
  have hq1 : q.size ≤ 140737488353002 := by omega
  have hq3 : q.size ≤ s.size + 2 := by omega
  have HF := Lib.hid hqf; clear hqf hqs
  go_enter Tryz.func43, Tryz.ntmps43
  go_wp2_with fail
  rw [← hq]
  have hR0 : Rdr (w.alloc (.cells #[.string q, .int .i64 0, .int .i64 0, .int .i64 0, .bool false, .bool false] 132)) w.heap.size q 0 := ⟨0, 0, false, false, heap_at rfl⟩
  clear hq
  refine (rlit w.heap.size q w _ hR0 ((Kept.refl [] w).alloc _) (Nat.le_refl _) hq2 (by omega) HF.out).mono ?_
  rintro e w1 ⟨⟨str, rfl, hsz⟩, hk, t, hR⟩
  have c0 := hR.c0; have c1 := hR.c1
  obtain ⟨bd, c2⟩ := hR.cells.2.2.1
  clear hR0
  by_cases hbd : bd = 0
  · subst hbd
    go_wp2_with fail
    go_quiet (fail)
    go_wp2_with fail
    go_ret2
    exact ⟨⟨_, _, rfl, by omega⟩, hk.drewN _⟩
  · have zb : (bd == 0) = false := beq_eq_false_iff_ne.2 hbd
    go_wp2_with fail
    go_quiet (fail)
    go_wp2_with fail
    go_ret2
    exact ⟨⟨_, _, rfl, by omega⟩, hk.drewN _⟩
set_option maxRecDepth 100000 in
set_option maxHeartbeats 4000000 in
theorem hexb (s : ByteArray) (w : World) (hs : s.size ≤ 140737488353000) : Calls Tryz.prog 44 #[.string s] w fun e w' => SBR s e ∧ Kept [] w w' := by
  obtain ⟨q, hq⟩ : ∃ q, q = (⟨#[60]⟩ : ByteArray) ++ s ++ ⟨#[62]⟩ := ⟨_, rfl⟩
  have hqs : q.size = s.size + 2 := by rw [hq]; exact wrap_size _ _ _
  have hq2 : 2 ≤ q.size := by omega
  have hq1 : q.size ≤ 140737488353002 := by omega
  have hq3 : q.size ≤ s.size + 2 := by omega
  clear hqs
  go_enter Tryz.func44, Tryz.ntmps44
  go_wp2_with fail
  go_loop [9] (fun vi => ∃ k : Nat, k ≤ s.size ∧ vi = .int .i64 k) (fun vi => s.size - (intOf vi).toNat)
  case atStart => exact ⟨0, by omega, rfl⟩
  case round =>
    obtain ⟨k, hk, rfl⟩ := hrel
    by_cases hlt : k < s.size
    · have hb := (s[k]'hlt).toNat_lt
      go_wp2_with fail
      refine (hexd _ _ (by omega) (by omega)).mono ?_
      rintro e w' ⟨⟨r, r1, r2, rfl⟩, rfl⟩
      go_wp2_with fail
      · go_ret2
        exact ⟨⟨_, _, rfl, by show 0 ≤ s.size; omega⟩, Kept.refl _ _⟩
      · exact ⟨⟨k + 1, by omega, by go_num⟩, by simp [intOf]; omega⟩
    · go_wp2_with fail
      rw [← hq]
      have hR0 : Rdr (w.alloc (.cells #[.string q, .int .i64 0, .int .i64 0, .int .i64 0, .bool false, .bool false] 132)) w.heap.size q 0 := ⟨0, 0, false, false, heap_at rfl⟩
      clear hq
      refine (rhex w.heap.size q w _ hR0 ((Kept.refl [] w).alloc _) (Nat.le_refl _) hq2 (by omega)).mono ?_
      rintro e w1 ⟨⟨str, rfl, hsz⟩, hk, t, hR⟩
      obtain ⟨bd, c2⟩ := hR.cells.2.2.1
      clear hR0
      go_wp2_with fail
      go_quiet (fail)
      go_wp2_with fail
      go_ret2
      exact ⟨⟨_, _, rfl, by omega⟩, hk.drewN _⟩
end Go.Proofs.YtfkecmlmnhbmoaaGreatDoor
