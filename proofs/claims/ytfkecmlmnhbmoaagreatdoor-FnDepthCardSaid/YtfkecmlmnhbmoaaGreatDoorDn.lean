import Derived.Test.YtfkecmlmnhbmoaaGreatDoorDm
namespace Go.Proofs.YtfkecmlmnhbmoaaGreatDoor
open Go.RowKit
theorem Br_wrap (k : Nat) : (⟨#[91]⟩ : ByteArray) ++ Br k k ++ ⟨#[93]⟩ = Br (k + 1) (k + 1) := by
  apply ba_ext
  have hd : ∀ a b : ByteArray, (a ++ b).data.toList = a.data.toList ++ b.data.toList := by
    intro a b
    obtain ⟨a⟩ := a
    obtain ⟨b⟩ := b
    have := ByteArray.mk_append_mk a.toList b.toList
    simp only [Array.toArray_toList] at this
    rw [this]
  rw [hd, hd, Br_toList, Br_toList]
  show [91] ++ (List.replicate k 91 ++ List.replicate k 93) ++ [93] = List.replicate (k + 1) 91 ++ List.replicate (k + 1) 93
  rw [List.replicate_succ (n := k) (a := 91), List.replicate_succ' (n := k) (a := 93)]
  simp
theorem law_out (a b : Int) (w : World) (h : a < 1 ∨ 200 < a ∨ b < 1 ∨ 100 < b) :
    Calls Tryz.prog 6 #[.int .i64 a, .int .i64 b] w fun e w' => e = .returned (.bool true) ∧ Kept [] w w' := by
  by_cases h1 : a < 1
  · go_enter Tryz.func6, Tryz.ntmps6
    go_wp2_with fail
    go_ret
    exact ⟨rfl, Kept.refl _ _⟩
  by_cases h2 : 200 < a
  · go_enter Tryz.func6, Tryz.ntmps6
    go_wp2_with fail
    go_ret
    exact ⟨rfl, Kept.refl _ _⟩
  by_cases h3 : b < 1
  · go_enter Tryz.func6, Tryz.ntmps6
    go_wp2_with fail
    go_ret
    exact ⟨rfl, Kept.refl _ _⟩
  · have h4 : 100 < b := by omega
    go_enter Tryz.func6, Tryz.ntmps6
    go_wp2_with fail
    go_ret
    exact ⟨rfl, Kept.refl _ _⟩
set_option maxHeartbeats 2000000 in
theorem law_in (a b : Int) (w : World) (a0 : Addr) (hv : w.cell? ⟨1, 0, none⟩ = some (errV a0)) (h1 : 1 ≤ a) (h2 : a ≤ 200) (h3 : 1 ≤ b) (h4 : b ≤ 100) :
    Calls Tryz.prog 6 #[.int .i64 a, .int .i64 b] w fun e w' => e = .returned (.bool true) ∧ Kept [] w w' := by
  have Hv := Lib.hid hv; clear hv
  go_enter Tryz.func6, Tryz.ntmps6
  go_wp2_with fail
  go_loop [5, 24] (fun t i => ∃ k : Nat, (k : Int) ≤ a ∧ i = .int .i64 k ∧ t = .string (Br k k)) (fun _ i => (a - intOf i).toNat)
  case atStart => exact ⟨0, by omega, rfl, rfl⟩
  case round =>
    obtain ⟨k, hk, rfl, rfl⟩ := hrel
    by_cases hlt : (k : Int) < a
    · have hsz : (Br k k).size ≤ 1000 := by rw [Br_size]; omega
      go_wp2_with fail
      refine ⟨⟨k + 1, by omega, by go_num, by rw [Br_wrap]⟩, by simp [intOf]; omega⟩
    · obtain rfl : a = (k : Int) := by omega
      obtain ⟨j, rfl⟩ : ∃ m, k = m + 1 := ⟨k - 1, by omega⟩
      by_cases hd : (j : Int) ≤ b
      · go_wp2_with fail
        refine (deep_ok j b _ hd (by omega) (by omega)).mono ?_
        rintro e w1 ⟨sa, sn, sc, s, rfl, hk1⟩
        have HK := Lib.hid hk1; clear hk1
        go_wp2_with (go_at_call 20; refine (deep_any _ _ _ (by omega) (by omega)).mono ?_; rintro e w' ⟨rfl, rfl⟩)
        go_ret
        refine ⟨?_, HK.out.alloc _⟩
        simp [hd]
      · go_wp2_with fail
        refine (deep_no j b a0 _ (by omega) (by omega) (by omega) Hv.out).mono ?_
        rintro e w1 ⟨rfl, hk1⟩
        have HK := Lib.hid hk1; clear hk1
        go_wp2_with (go_at_call 20; refine (deep_any _ _ _ (by omega) (by omega)).mono ?_; rintro e w' ⟨rfl, rfl⟩)
        go_ret
        refine ⟨?_, HK.out.alloc _⟩
        simp; omega
end Go.Proofs.YtfkecmlmnhbmoaaGreatDoor
