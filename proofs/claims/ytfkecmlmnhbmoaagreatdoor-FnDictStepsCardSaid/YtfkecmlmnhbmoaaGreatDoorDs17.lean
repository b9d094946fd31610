import Derived.Test.YtfkecmlmnhbmoaaGreatDoorDs16
import Derived.Laws.BytesArg
import Derived.Laws.MakeOwn
namespace Go.Proofs.YtfkecmlmnhbmoaaGreatDoor
open Go.RowKit
set_option maxRecDepth 100000 in
set_option maxHeartbeats 4000000 in
theorem fmt86 (b : Nat) (N : Nat) (w : World) (ht : Tabs N w) (hN : N ≤ w.heap.size) (hb : b < 18446744073709551616) (hE : b / 4503599627370496 % 2048 ≤ 1069) :
    Calls Tryz.prog 86 #[.float .f64 b, .int .u8 102, .int .i64 12, .int .i64 64] w fun en w' =>
      ∃ bs L neg, en = .returned (.string (strOfNums bs)) ∧ FracP neg L 12 bs ∧ 1 ≤ L ∧ L ≤ 37 ∧ Kept [] w w' := by
  obtain ⟨i0, hi, hz0, hz1, hz2⟩ := info_parts Tryz.info5
  obtain ⟨w1, hmk, hrow, hgr⟩ := run_make_own (P := Tryz.prog) w w.heap.size 105 5 i0 _ 1 Tryz.underlying105 hi hz0 hz1 .i64 .i64 24 (by rw [hz2]; decide) (by unfold maxLen; decide) (Nat.le_refl _)
  have hk1 : Kept [] w w1 := Kept.of_grown hgr (by simp)
  have hown : Own w w1 (.slice (some ⟨w.heap.size, 0, none⟩) 0 24) [] := ⟨hrow, hk1⟩
  have ht1 := ht.kept hk1 hN (by simp)
  have hmk2 : (Instr.makeSlice 105 (.int .i64 0) (.int .i64 24)).run Tryz.prog w = .ok (.slice (some ⟨w.heap.size, 0, none⟩) 0 24) w1 := hmk
  have z24 : max (16 : Int) 24 = 24 := by decide
  clear hmk hrow hgr hi hz0 hz1 hz2
  go_enter Tryz.func86, Tryz.ntmps86
  go_wp2_with fail
  refine (ftoa b _ N w w1 ht1 hN hown hb hE).mono ?_
  rintro en w2 ⟨v, bs, L, neg, rfl, ho, hf, hl1, hl2⟩
  have hlen : 1 ≤ bs.length := by obtain ⟨ds, fs, rfl, _⟩ := hf; simp; omega
  obtain ⟨g, cap, rfl⟩ : ∃ g cap, v = .slice (some ⟨g, 0, none⟩) bs.length cap := by
    rcases ho.row.2 with ⟨_, h⟩ | ⟨g, cap, cur, h, _⟩
    · omega
    · exact ⟨g, cap, h⟩
  have hcv := run_convert_bytes_arg (P := Tryz.prog) w2 105 5 Tryz.underlying105 Tryz.underlying5 g 0 bs.length cap bs rfl (fun i hi => by
    have := ho.row.cells (g := g) rfl i (.int .u8 (bs.getD i 0)) (by simp [List.getD, List.getElem?_eq_getElem hi])
    rw [Addr.add_lit] at this
    exact this)
  have hcv2 := hcv 9 Tryz.underlying9
  clear hcv
  have HF := Lib.hid hf; have HK := Lib.hid ho.kept; clear hf ho
  go_wp2_with fail
  go_ret
  exact ⟨bs, L, neg, rfl, HF.out, hl1, hl2, HK.out⟩
set_option maxRecDepth 100000 in
set_option maxHeartbeats 4000000 in
theorem fmt68 (b : Nat) (N : Nat) (w : World) (ht : Tabs N w) (hN : N ≤ w.heap.size) (hb : b < 18446744073709551616) (hE : b / 4503599627370496 % 2048 ≤ 1069) :
    Calls Tryz.prog 68 #[.float .f64 b, .int .u8 102, .int .i64 12, .int .i64 64] w fun en w' =>
      ∃ bs L neg, en = .returned (.string (strOfNums bs)) ∧ FracP neg L 12 bs ∧ 1 ≤ L ∧ L ≤ 37 ∧ Kept [] w w' := by
  go_enter Tryz.func68, Tryz.ntmps68
  go_wp2_with fail
  refine (fmt86 b N w ht hN hb hE).mono ?_
  rintro en w2 ⟨bs, L, neg, rfl, hf, hl1, hl2, hk⟩
  go_wp2_with fail
  go_ret
  exact ⟨bs, L, neg, rfl, hf, hl1, hl2, hk⟩
end Go.Proofs.YtfkecmlmnhbmoaaGreatDoor
