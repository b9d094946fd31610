import Derived.Test.YtfkecmlmnhbmoaaGreatDoorFk43
import Derived.Test.YtfkecmlmnhbmoaaGreatDoorFk16
import Derived.Laws.BytesArg
import Derived.Laws.MakeOwn
namespace Go.Proofs.YtfkecmlmnhbmoaaGreatDoor
open Go.RowKit
set_option maxRecDepth 100000 in
set_option maxHeartbeats 4000000 in
theorem fmt86F (b : Nat) (N : Nat) (W0 : World) (ht0 : Tabs N W0) (hN : N ≤ W0.heap.size) (hb : b < 18446744073709551616) (hE : b / 4503599627370496 % 2048 ≤ 1069) : ∃ (bs : List Int) (L : Nat) (neg : Bool), (FracP neg L 12 bs ∧ 1 ≤ L ∧ L ≤ 37) ∧
    ∀ w : World, Kept [] W0 w → Calls Tryz.prog 86 #[.float .f64 b, .int .u8 102, .int .i64 12, .int .i64 64] w fun en w' => en = .returned (.string (strOfNums bs)) ∧ Kept [] w w' := by
  obtain ⟨bs, L, neg, ⟨hf, hl1, hl2⟩, hF⟩ := ftoaF b N W0 ht0 hN hb hE
  refine ⟨bs, L, neg, ⟨hf, hl1, hl2⟩, fun w hkw => ?_⟩
  have hlen : 1 ≤ bs.length := by obtain ⟨ds, fs, rfl, _⟩ := hf; simp; omega
  have HFT := Lib.hid hF; clear hF hf
  obtain ⟨i0, hi, hz0, hz1, hz2⟩ := info_parts Tryz.info5
  obtain ⟨w1, hmk, hrow, hgr⟩ := run_make_own (P := Tryz.prog) w w.heap.size 105 5 i0 _ 1 Tryz.underlying105 hi hz0 hz1 .i64 .i64 24 (by rw [hz2]; decide) (by unfold maxLen; decide) (Nat.le_refl _)
  have hk1 : Kept [] w w1 := Kept.of_grown hgr (by simp)
  have hown : Own w w1 (.slice (some ⟨w.heap.size, 0, none⟩) 0 24) [] := ⟨hrow, hk1⟩
  have hkw1 := Kept.trans hkw hk1 (Z := []) (by simp) (by simp)
  have hmk2 : (Instr.makeSlice 105 (.int .i64 0) (.int .i64 24)).run Tryz.prog w = .ok (.slice (some ⟨w.heap.size, 0, none⟩) 0 24) w1 := hmk
  have z24 : max (16 : Int) 24 = 24 := by decide
  clear hmk hrow hgr hi hz0 hz1 hz2
  go_enter Tryz.func86, Tryz.ntmps86
  go_wp2_with fail
  refine (HFT.out _ w w1 hkw1 hkw.size hown).mono ?_
  rintro en w2 ⟨v, rfl, ho⟩
  obtain ⟨g, cap, rfl⟩ : ∃ g cap, v = .slice (some ⟨g, 0, none⟩) bs.length cap := by
    rcases ho.row.2 with ⟨_, h⟩ | ⟨g, cap, cur, h, _⟩
    · omega
    · exact ⟨g, cap, h⟩
  have hcv := run_convert_bytes_arg (P := Tryz.prog) w2 105 5 Tryz.underlying105 Tryz.underlying5 g 0 bs.length cap bs rfl (fun i hi => by
    have := ho.row.cells (g := g) rfl i (.int .u8 (bs.getD i 0)) (by simp [List.getD, List.getElem?_eq_getElem hi])
    rw [Addr.add_lit] at this
    exact this)
  have hcv2 := hcv 9 Tryz.underlying9
  clear hcv
  have HK := Lib.hid ho.kept; clear ho
  go_wp2_with fail
  go_ret
  exact ⟨rfl, HK.out⟩
set_option maxRecDepth 100000 in
set_option maxHeartbeats 4000000 in
theorem fmt68F (b : Nat) (N : Nat) (W0 : World) (ht0 : Tabs N W0) (hN : N ≤ W0.heap.size) (hb : b < 18446744073709551616) (hE : b / 4503599627370496 % 2048 ≤ 1069) : ∃ (bs : List Int) (L : Nat) (neg : Bool), (FracP neg L 12 bs ∧ 1 ≤ L ∧ L ≤ 37) ∧
    ∀ w : World, Kept [] W0 w → Calls Tryz.prog 68 #[.float .f64 b, .int .u8 102, .int .i64 12, .int .i64 64] w fun en w' => en = .returned (.string (strOfNums bs)) ∧ Kept [] w w' := by
  obtain ⟨bs, L, neg, hp, hF⟩ := fmt86F b N W0 ht0 hN hb hE
  refine ⟨bs, L, neg, hp, fun w hkw => ?_⟩
  have HFT := Lib.hid hF; clear hF hp
  go_enter Tryz.func68, Tryz.ntmps68
  go_wp2_with fail
  refine (HFT.out w hkw).mono ?_
  rintro en w2 ⟨rfl, hk⟩
  go_wp2_with fail
  go_ret
  exact ⟨rfl, hk⟩
end Go.Proofs.YtfkecmlmnhbmoaaGreatDoor
