import Derived.Test.YtfkecmlmnhbmoaaGreatDoorDb
namespace Go.Proofs.YtfkecmlmnhbmoaaGreatDoor
open Go.RowKit
set_option maxHeartbeats 400000 in
theorem deep_any (a b : Int) (w : World) (h1 : 1 ≤ a) (h2 : a ≤ 200) :
    Calls Tryz.prog 20 #[.int .i64 a, .int .i64 b] w fun e w' => e = .returned (.bool (decide (a - 1 ≤ b))) ∧ w = w' := by
  go_enter Tryz.func20, Tryz.ntmps20
  go_wp2
  go_ret
  exact ⟨rfl, rfl⟩
set_option maxHeartbeats 400000 in
theorem nobuf (p : Addr) (s : ByteArray) (w : World) (hc : w.cell? p = some (.string s)) (h1 : ((s.size : Int) == 0) = false) :
    Calls Tryz.prog 62 #[.pointer (some p)] w fun e w' => e = .returned (.bool false) ∧ w = w' := by
  go_enter Tryz.func62, Tryz.ntmps62
  go_wp2
  go_ret
  exact ⟨rfl, rfl⟩
set_option maxHeartbeats 400000 in
theorem check_ok (s : ByteArray) (a b : Int) (w : World) (h0 : 0 < b) (h : a ≤ b) :
    Calls Tryz.prog 79 #[.string s, .int .i64 a, .int .i64 b] w fun e w' => e = .returned .nilIface ∧ w = w' := by
  go_enter Tryz.func79, Tryz.ntmps79
  go_wp2
  go_ret
  exact ⟨rfl, rfl⟩
set_option maxHeartbeats 400000 in
theorem check_no (s : ByteArray) (a b : Int) (v : Value) (w : World) (h0 : 0 < b) (h : b < a) (hv : w.cell? ⟨1, 0, none⟩ = some v) :
    Calls Tryz.prog 79 #[.string s, .int .i64 a, .int .i64 b] w fun e w' => e = .returned v ∧ w = w' := by
  go_enter Tryz.func79, Tryz.ntmps79
  go_wp2
  go_ret
  exact ⟨rfl, rfl⟩
set_option maxHeartbeats 400000 in
theorem space1 (c : Int) (w : World) (h : 33 ≤ c) (h2 : c ≤ 126):
    Calls Tryz.prog 101 #[.int .i32 c] w fun e w' => e = .returned (.bool false) ∧ w = w' := by
  go_enter Tryz.func101, Tryz.ntmps101
  go_wp2
  go_ret
  exact ⟨rfl, rfl⟩
set_option maxHeartbeats 400000 in
theorem white1 (c : Int) (w : World) (h : 33 ≤ c) (h2 : c ≤ 126):
    Calls Tryz.prog 100 #[.int .i32 c] w fun e w' => e = .returned (.bool false) ∧ w = w' := by
  have h0 : (c == 0) = false := beq_eq_false_iff_ne.2 (by omega)
  go_enter Tryz.func100, Tryz.ntmps100
  go_wp2_with (go_at_call 101; refine (space1 _ _ h h2).mono ?_; rintro e w' ⟨rfl, rfl⟩)
  go_ret
  exact ⟨rfl, rfl⟩
set_option maxHeartbeats 400000 in
theorem index1 (s : ByteArray) (w : World) (h0 : 0 < s.size) (h : 33 ≤ (s[0]'h0).toNat) (h2 : (s[0]'h0).toNat ≤ 126) :
    Calls Tryz.prog 129 #[.string s, .func (.func 100) #[] #[], .bool false] w fun e w' => e = .returned (.int .i64 0) ∧ w.alloc (.stringIter s 1) = w' := by
  have hn := run_next_ascii (P := Tryz.prog) w s 0 0 h0 (by omega)
  go_enter Tryz.func129, Tryz.ntmps129
  go_wp2_with fail
  refine wp_loop_once ?_
  go_wp2_with (go_at_call 100; refine (white1 _ _ (by omega) (by omega)).mono ?_; rintro e w' ⟨rfl, rfl⟩)
  go_ret
  exact ⟨rfl, rfl⟩
set_option maxHeartbeats 400000 in
theorem trimf (s : ByteArray) (w : World) (h0 : 0 < s.size) (h : 33 ≤ (s[0]'h0).toNat) (h2 : (s[0]'h0).toNat ≤ 126) :
    Calls Tryz.prog 103 #[.string s, .func (.func 100) #[] #[]] w fun e w' => e = .returned (.string s) ∧ w.alloc (.stringIter s 1) = w' := by
  go_enter Tryz.func103, Tryz.ntmps103
  go_wp2_with (go_at_call 129; refine (index1 _ _ h0 h h2).mono ?_; rintro e w1 ⟨rfl, rfl⟩)
  go_ret
  exact ⟨rfl, rfl⟩
set_option maxHeartbeats 400000 in
theorem trim1 (s : ByteArray) (w : World) (h0 : 0 < s.size) (h : 33 ≤ (s[0]'h0).toNat) (h2 : (s[0]'h0).toNat ≤ 126) (h3 : (((s[0]'h0).toNat : Int) != 37) = true) :
    Calls Tryz.prog 80 #[.string s, .bool false] w fun e w' => e = .returned (.tuple #[.string s, .bool false]) ∧ w.alloc (.stringIter s 1) = w' := by
  go_enter Tryz.func80, Tryz.ntmps80
  go_wp2_with fail
  refine wp_loop_once ?_
  go_wp2_with (go_at_call 103; refine (trimf _ _ h0 h h2).mono ?_; rintro e w1 ⟨rfl, rfl⟩)
  all_goals go_ret2
  all_goals exact ⟨rfl, rfl⟩
set_option maxHeartbeats 400000 in
theorem hasp (s : ByteArray) (p : UInt8) (b : Bool) (w : World) (h0 : 1 ≤ s.size) (hb : ((s.extract 0 1).toList == [p]) = b) :
    Calls Tryz.prog 130 #[.string s, .string ⟨#[p]⟩] w fun e w' => e = .returned (.bool b) ∧ w = w' := by
  go_enter Tryz.func130, Tryz.ntmps130
  go_wp2
  go_ret
  exact ⟨rfl, rfl⟩
set_option maxHeartbeats 400000 in
theorem fwd1 (s : ByteArray) (w : World) (h0 : 2 ≤ s.size)  :
    Calls Tryz.prog 110 #[.string s, .int .i64 1] w fun e w' => e = .returned (.string (s.extract 1 s.size)) ∧ w = w' := by
  go_enter Tryz.func110, Tryz.ntmps110
  go_wp2
  go_ret
  exact ⟨rfl, rfl⟩
set_option maxHeartbeats 400000 in
theorem fwd0 (s : ByteArray) (w : World) (h0 : s.size < 2)  :
    Calls Tryz.prog 110 #[.string s, .int .i64 1] w fun e w' => e = .returned (.string ⟨#[]⟩) ∧ w = w' := by
  go_enter Tryz.func110, Tryz.ntmps110
  go_wp2
  go_ret
  exact ⟨rfl, rfl⟩
/-! on brackets -/
theorem fwd_open (j k : Nat) (w : World) (h : 1 ≤ j + k) :
    Calls Tryz.prog 110 #[.string (Br (j + 1) k), .int .i64 1] w fun e w' => e = .returned (.string (Br j k)) ∧ w = w' :=
  (fwd1 (Br (j + 1) k) w (by rw [Br_size]; omega)).mono fun _ _ h => by rw [Br_tail] at h; exact h
theorem fwd_close (k : Nat) (w : World) :
    Calls Tryz.prog 110 #[.string (Br 0 (k + 1)), .int .i64 1] w fun e w' => e = .returned (.string (Br 0 k)) ∧ w = w' := by
  cases k with
  | zero => exact (fwd0 (Br 0 1) w (by rw [Br_size]; omega))
  | succ k => exact (fwd1 (Br 0 (k + 2)) w (by rw [Br_size]; omega)).mono fun _ _ h => by rw [Br_tail0] at h; exact h
theorem hasp_open (j k : Nat) (w : World) :
    Calls Tryz.prog 130 #[.string (Br (j + 1) k), .string ⟨#[91]⟩] w fun e w' => e = .returned (.bool true) ∧ w = w' :=
  hasp _ _ _ w (by rw [Br_size]; omega) (by rw [Br_head]; rfl)
theorem hasp_no (j k : Nat) (w : World) :
    Calls Tryz.prog 130 #[.string (Br (j + 1) k), .string ⟨#[93]⟩] w fun e w' => e = .returned (.bool false) ∧ w = w' :=
  hasp _ _ _ w (by rw [Br_size]; omega) (by rw [Br_head]; rfl)
theorem hasp_close (k : Nat) (w : World) :
    Calls Tryz.prog 130 #[.string (Br 0 (k + 1)), .string ⟨#[93]⟩] w fun e w' => e = .returned (.bool true) ∧ w = w' :=
  hasp _ _ _ w (by rw [Br_size]; omega) (by rw [Br_head0]; rfl)
theorem trim_br (j k : Nat) (w : World) (h : 1 ≤ j + k) :
    Calls Tryz.prog 80 #[.string (Br j k), .bool false] w fun e w' => e = .returned (.tuple #[.string (Br j k), .bool false]) ∧ w.alloc (.stringIter (Br j k) 1) = w' := by
  cases j with
  | succ j =>
    have h0 : 0 < (Br (j + 1) k).size := by rw [Br_size]; omega
    exact trim1 _ w h0 (by rw [Br_first]; decide) (by rw [Br_first]; decide) (by rw [Br_first]; decide)
  | zero =>
    obtain ⟨k, rfl⟩ : ∃ m, k = m + 1 := ⟨k - 1, by omega⟩
    have h0 : 0 < (Br 0 (k + 1)).size := by rw [Br_size]; omega
    exact trim1 _ w h0 (by rw [Br_first0]; decide) (by rw [Br_first0]; decide) (by rw [Br_first0]; decide)
end Go.Proofs.YtfkecmlmnhbmoaaGreatDoor
