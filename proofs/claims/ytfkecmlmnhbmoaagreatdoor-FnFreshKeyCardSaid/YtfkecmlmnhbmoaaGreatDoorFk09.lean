import Derived.Test.YtfkecmlmnhbmoaaGreatDoorFk08
import Derived.Laws.BytesArg
import Derived.Laws.BitsAllLaws
namespace Go.Proofs.YtfkecmlmnhbmoaaGreatDoor
open Go.RowKit
/-- A numeral: a sign (g = 1) or none, L digits, a point, twelve digits. -/
structure NumS (s : ByteArray) (g L : Nat) : Prop where
  g1 : g ≤ 1
  l1 : 1 ≤ L
  l2 : L ≤ 37
  size : s.size = g + L + 13
  sign : ∀ h : 0 < s.size, g = 1 → (s[0]'h).toNat = 45
  dig : ∀ i (h : i < s.size), g ≤ i → i ≠ g + L → 48 ≤ (s[i]'h).toNat ∧ (s[i]'h).toNat ≤ 57
  dot : ∀ h : g + L < s.size, (s[g + L]'h).toNat = 46
theorem byteN (c : Int) (h : 0 ≤ c) (h2 : c ≤ 255) : (UInt8.ofNat c.toNat).toNat = c.toNat := by rw [UInt8.toNat_ofNat']; omega
theorem nums_at (l : List Int) (i : Nat) (h : i < (strOfNums l).size) : (strOfNums l)[i]'h = UInt8.ofNat (l[i]'(by rw [strOfNums_size] at h; exact h)).toNat := by
  have h2 : i < l.length := by rw [strOfNums_size] at h; exact h
  show ((l.map fun n : Int => UInt8.ofNat n.toNat).toArray)[i]'(by simpa using h2) = _
  simp
theorem frac_num {neg : Bool} {L : Nat} {bs : List Int} (h : FracP neg L 12 bs) (h1 : 1 ≤ L) (h2 : L ≤ 37) : ∃ g, NumS (strOfNums bs) g L := by
  obtain ⟨ds, fs, rfl, hd, hl, hf, hl2⟩ := h
  have hb : ∀ (i : Nat) (h : i < (strOfNums (sgn neg ++ ds ++ 46 :: fs)).size), ((strOfNums (sgn neg ++ ds ++ 46 :: fs))[i]'h) = UInt8.ofNat ((sgn neg ++ ds ++ 46 :: fs)[i]'(by rw [strOfNums_size] at h; exact h)).toNat := fun i h => nums_at _ i h
  have hg : (sgn neg).length ≤ 1 := by cases neg <;> simp [sgn]
  refine ⟨(sgn neg).length, hg, h1, h2, ?_, fun h0 hg1 => ?_, fun i h hi hne => ?_, fun h => ?_⟩
  · rw [strOfNums_size]; simp [hl, hl2]; omega
  · rw [hb]
    cases neg
    · simp [sgn] at hg1
    · simp [sgn]
  · rw [hb]
    have hi2 : i < (sgn neg ++ ds ++ 46 :: fs).length := by rw [strOfNums_size] at h; exact h
    have hc : 48 ≤ (sgn neg ++ ds ++ 46 :: fs)[i] ∧ (sgn neg ++ ds ++ 46 :: fs)[i] ≤ 57 := by
      by_cases hlt : i < (sgn neg ++ ds).length
      · rw [List.getElem_append_left hlt, List.getElem_append_right hi]
        exact hd _ (List.getElem_mem _)
      · have hlen : (sgn neg ++ ds).length = (sgn neg).length + L := by simp [hl]
        obtain ⟨j, hj⟩ : ∃ j, i = (sgn neg ++ ds).length + 1 + j := ⟨i - (sgn neg ++ ds).length - 1, by omega⟩
        subst hj
        rw [List.getElem_append_right (by omega)]
        simp only [show (sgn neg ++ ds).length + 1 + j - (sgn neg ++ ds).length = j + 1 by omega, List.getElem_cons_succ]
        exact hf _ (List.getElem_mem _)
    rw [byteN _ (by omega) (by omega)]; omega
  · rw [hb]
    have hlen : (sgn neg ++ ds).length = (sgn neg).length + L := by simp [hl]
    have : (sgn neg ++ ds ++ 46 :: fs)[(sgn neg).length + L]'(by simp [hl]) = 46 := by
      rw [List.getElem_append_right (by omega)]
      simp [hlen]
    rw [this]; rfl
theorem lower_fin : ∀ c : Fin 256, c.val < 45 ∨ 57 < c.val ∨ bits BinOp.or IntKind.u8 (c.val : Int) 32 = (c.val : Int) := by decide +kernel
set_option maxHeartbeats 400000 in
theorem lowr (c : Nat) (w : World) (h1 : 45 ≤ c) (h2 : c ≤ 57) : Calls Tryz.prog 194 #[.int .u8 c] w fun e w' => e = .returned (.int .u8 c) ∧ w = w' := by
  have hb : bits BinOp.or IntKind.u8 (c : Int) 32 = (c : Int) := by
    rcases lower_fin ⟨c, by omega⟩ with h | h | h
    · dsimp only at h; omega
    · dsimp only at h; omega
    · exact h
  go_enter Tryz.func194, Tryz.ntmps194
  go_wp2_with fail
  go_ret
  exact ⟨rfl, rfl⟩
set_option maxRecDepth 100000 in
set_option maxHeartbeats 2000000 in
theorem cpli (s p : ByteArray) (w : World) (h0 : 0 < s.size) (h1 : (s[0]'h0).toNat ≤ 57) (hp : 0 < p.size) (hp8 : p.size ≤ 8) (hs : s.size ≤ 1000) (h2 : 97 ≤ (p[0]'hp).toNat) :
    Calls Tryz.prog 225 #[.string s, .string p] w fun e w' => e = .returned (.int .i64 0) ∧ ∃ k, w' = w.drewN k := by
  obtain ⟨n, hn⟩ : ∃ n : Nat, min (p.size : Int) (s.size : Int) = (n : Int) := ⟨min p.size s.size, by omega⟩
  have hn1 : 1 ≤ n := by omega
  have z : (((s[0]'h0).toNat : Int) != ((p[0]'hp).toNat : Int)) = true := by
    have : ((s[0]'h0).toNat : Int) ≠ ((p[0]'hp).toNat : Int) := by omega
    simpa using this
  go_enter Tryz.func225, Tryz.ntmps225
  go_wp2_with fail
  refine wp_loop_once ?_
  go_wp2_with fail
  go_ret
  exact ⟨rfl, 0, rfl⟩
set_option maxRecDepth 100000 in
set_option maxHeartbeats 2000000 in
theorem spcl (s : ByteArray) (g L : Nat) (w : World) (hs : NumS s g L) :
    Calls Tryz.prog 179 #[.string s] w fun e w' => e = .returned (.tuple #[.float .f64 0, .int .i64 0, .bool false]) ∧ ∃ k, w' = w.drewN k := by
  have hsz := hs.size
  have hl1 := hs.l1; have hl2 := hs.l2; have hg1 := hs.g1
  have z0 : ((s.size : Int) == 0) = false := beq_eq_false_iff_ne.2 (by omega)
  by_cases hg : g = 1
  · subst hg
    have h0 := hs.sign (by omega) rfl
    have h1 := hs.dig 1 (by omega) (by omega) (by omega)
    go_enter Tryz.func179, Tryz.ntmps179
    go_wp2_with fail
    have hx : ((s.extract 1 (1 + L + 13))[0]'(by simp [hsz])).toNat ≤ 57 := by
      rw [ByteArray.getElem_extract]; simpa using h1.2
    refine (cpli _ _ _ (by simp [hsz]) hx (by decide) (by decide) (by simp [hsz]; omega) (by decide)).mono ?_
    rintro e w' ⟨rfl, k, rfl⟩
    go_wp2_with fail
    go_ret3
    exact ⟨rfl, k, rfl⟩
  · obtain rfl : g = 0 := by omega
    have h0 := hs.dig 0 (by omega) (by omega) (by omega)
    have z1 : (((s[0]'(by omega)).toNat : Int) == 43) = false := beq_eq_false_iff_ne.2 (by omega)
    have z2 : (((s[0]'(by omega)).toNat : Int) == 45) = false := beq_eq_false_iff_ne.2 (by omega)
    have z3 : (((s[0]'(by omega)).toNat : Int) == 105) = false := beq_eq_false_iff_ne.2 (by omega)
    have z4 : (((s[0]'(by omega)).toNat : Int) == 73) = false := beq_eq_false_iff_ne.2 (by omega)
    have z5 : (((s[0]'(by omega)).toNat : Int) == 110) = false := beq_eq_false_iff_ne.2 (by omega)
    have z6 : (((s[0]'(by omega)).toNat : Int) == 78) = false := beq_eq_false_iff_ne.2 (by omega)
    go_enter Tryz.func179, Tryz.ntmps179
    go_wp2_with fail
    go_ret3
    exact ⟨rfl, 0, rfl⟩
end Go.Proofs.YtfkecmlmnhbmoaaGreatDoor
