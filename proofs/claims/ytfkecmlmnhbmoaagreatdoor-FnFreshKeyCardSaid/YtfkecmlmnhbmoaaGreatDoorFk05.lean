import Derived.Test.YtfkecmlmnhbmoaaGreatDoorFk01
import Derived.Deep.QuietTactic
import Derived.BigQuiet
import Derived.Laws.MathBits
import Derived.Laws.ShiftsVar
namespace Go.Proofs.YtfkecmlmnhbmoaaGreatDoor
open Go.RowKit
/-- A number that fits an unsigned word. -/
structure U (x : Int) : Prop where
  lo : 0 ≤ x
  hi : x < 18446744073709551616
theorem U_wrap (x : Int) : U (IntKind.u64.wrap x) := by rw [IntKind.wrap_u64]; exact ⟨by omega, by omega⟩
theorem U_bits (op : BinOp) (x y : Int) : U (bits op .u64 x y) := by unfold bits; exact U_wrap _
theorem U_ediv {x : Int} (h : U x) (d : Int) (hd : 0 < d) : U (x / d) := ⟨Int.ediv_nonneg h.lo (by omega), Int.lt_of_le_of_lt (Int.ediv_le_self _ h.1) h.2⟩
theorem U_nat {x : Int} (h : U x) : ∃ n : Nat, x = n ∧ n < 18446744073709551616 := ⟨x.toNat, by have := h.1; omega, by have := h.1; have := h.2; omega⟩
set_option maxHeartbeats 400000 in
theorem log10 (x : Int) (w : World) (h1 : -4000 ≤ x) (h2 : x ≤ 4000) :
    Calls Tryz.prog 119 #[.int .i64 x] w fun e w' => e = .returned (.int .i64 (x * 78913 / 262144)) ∧ w = w' := by
  go_enter Tryz.func119, Tryz.ntmps119
  go_wp2
  go_ret
  exact ⟨rfl, rfl⟩
set_option maxHeartbeats 400000 in
theorem log2 (x : Int) (w : World) (h1 : -4000 ≤ x) (h2 : x ≤ 4000) :
    Calls Tryz.prog 197 #[.int .i64 x] w fun e w' => e = .returned (.int .i64 (x * 108853 / 32768)) ∧ w = w' := by
  go_enter Tryz.func197, Tryz.ntmps197
  go_wp2
  go_ret
  exact ⟨rfl, rfl⟩
def bi (b : Bool) : Int := if b then 1 else 0
theorem bi_01 (b : Bool) : 0 ≤ bi b ∧ bi b ≤ 1 := by cases b <;> decide
theorem U_bi (b : Bool) : U (bi b) := by cases b <;> exact ⟨by decide, by decide⟩
set_option maxHeartbeats 400000 in
theorem b2i (b : Bool) (w : World) :
    Calls Tryz.prog 121 #[.bool b] w fun e w' => e = .returned (.int .i64 (bi b)) ∧ w = w' := by
  cases b <;> go_enter Tryz.func121, Tryz.ntmps121 <;> go_wp2 <;> go_ret <;> exact ⟨rfl, rfl⟩
set_option maxHeartbeats 400000 in
theorem b2u (b : Bool) (w : World) :
    Calls Tryz.prog 188 #[.bool b] w fun e w' => e = .returned (.int .u64 (bi b)) ∧ w = w' := by
  cases b <;> go_enter Tryz.func188, Tryz.ntmps188 <;> go_wp2 <;> go_ret <;> exact ⟨rfl, rfl⟩
set_option maxHeartbeats 400000 in
theorem b2n (b : Bool) (w : World) :
    Calls Tryz.prog 233 #[.bool b] w fun e w' => e = .returned (.int .u64 (bi b)) ∧ w = w' := by
  cases b <;> go_enter Tryz.func233, Tryz.ntmps233 <;> go_wp2 <;> go_ret <;> exact ⟨rfl, rfl⟩
theorem b2n' (b : Bool) (w : World) : Calls Tryz.prog 233 #[.bool b] w fun e w' => e = .returned (.int .u64 (bi b)) ∧ w' = w := (b2n b w).mono fun _ _ h => ⟨h.1, h.2.symm⟩
theorem b2u' (b : Bool) (w : World) : Calls Tryz.prog 188 #[.bool b] w fun e w' => e = .returned (.int .u64 (bi b)) ∧ w' = w := (b2u b w).mono fun _ _ h => ⟨h.1, h.2.symm⟩
theorem Tryz.wrap64_in (n : Int) (h : -9223372036854775808 ≤ n ∧ n ≤ 9223372036854775807) : wrap64 n = n := by unfold wrap64; omega
theorem len_fin (x y c : Int) (hc : 0 ≤ c) (hc2 : c ≤ 56) (hy : 0 ≤ y) (hy2 : y < 256) (hb : bitLen x.toNat = c.toNat + bitLen y.toNat) : wrap64 (c + wrap64 (bitLen y.toNat : Nat)) = (bitLen x.toNat : Nat) := by
  have h8 := bitLen_le8 y.toNat (by omega)
  rw [Tryz.wrap64_in (bitLen y.toNat : Nat) (by omega), Tryz.wrap64_in _ (by omega), hb]
  omega
theorem len_fin0 (x y : Int) (hy : 0 ≤ y) (hy2 : y < 256) (hb : bitLen x.toNat = bitLen y.toNat) : wrap64 (wrap64 (bitLen y.toNat : Nat)) = (bitLen x.toNat : Nat) := by
  have h8 := bitLen_le8 y.toNat (by omega)
  rw [Tryz.wrap64_in (bitLen y.toNat : Nat) (by omega), Tryz.wrap64_in (bitLen y.toNat : Nat) (by omega), hb]
set_option maxHeartbeats 800000 in
set_option maxRecDepth 100000 in
theorem len64 (x : Int) (w : World) (h : U x) :
    Calls Tryz.prog 120 #[.int .u64 x] w fun e w' => e = .returned (.int .i64 (bitLen x.toNat)) ∧ w = w' := by
  obtain ⟨h1, h2⟩ := h
  go_enter Tryz.func120, Tryz.ntmps120
  go_wp2_with fail
  all_goals go_ret
  all_goals refine ⟨congrArg Ending.returned (congrArg (Value.int .i64) ?_), rfl⟩
  all_goals rw [len8tab_get]
  all_goals first | (refine len_fin0 _ _ (by omega) (by omega) ?_; rfl) | refine len_fin _ _ _ (by omega) (by omega) (by omega) (by omega) ?_
  all_goals first
    | (rw [bitLen_shift x.toNat 56 (by omega)]; refine congr (congrArg _ rfl) (congrArg bitLen ?_); omega)
    | (rw [bitLen_shift x.toNat 48 (by omega)]; refine congr (congrArg _ rfl) (congrArg bitLen ?_); omega)
    | (rw [bitLen_shift x.toNat 40 (by omega)]; refine congr (congrArg _ rfl) (congrArg bitLen ?_); omega)
    | (rw [bitLen_shift x.toNat 32 (by omega)]; refine congr (congrArg _ rfl) (congrArg bitLen ?_); omega)
    | (rw [bitLen_shift x.toNat 24 (by omega)]; refine congr (congrArg _ rfl) (congrArg bitLen ?_); omega)
    | (rw [bitLen_shift x.toNat 16 (by omega)]; refine congr (congrArg _ rfl) (congrArg bitLen ?_); omega)
    | (rw [bitLen_shift x.toNat 8 (by omega)]; refine congr (congrArg _ rfl) (congrArg bitLen ?_); omega)
end Go.Proofs.YtfkecmlmnhbmoaaGreatDoor
