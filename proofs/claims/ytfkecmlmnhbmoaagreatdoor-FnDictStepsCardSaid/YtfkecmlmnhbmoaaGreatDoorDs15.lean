import Derived.Test.YtfkecmlmnhbmoaaGreatDoorDs08
namespace Go.Proofs.YtfkecmlmnhbmoaaGreatDoor
open Go.RowKit Go.Sort
set_option maxRecDepth 100000 in
set_option maxHeartbeats 4000000 in
theorem efg_pos (neg : Bool) (v0 : Value) (B Ln : Nat) (dp : Int) (nd : Nat) (a0 w : World) (hown : Own a0 w v0 []) (hdp : 0 < dp) (hdp2 : dp ≤ 37) (hnd : nd ≤ Ln) (hL : Ln ≤ 800) (hd : Digs w B nd) :
    Calls Tryz.prog 150 #[v0, .bool neg, .slice (some ⟨B, 0, none⟩) Ln Ln, .int .i64 dp, .int .i64 nd, .int .i64 12, .int .u8 102, .bool false] w fun en w' =>
      ∃ v bs L, en = .returned v ∧ Own a0 w' v bs ∧ FracP neg L 12 bs ∧ 1 ≤ L ∧ L ≤ 37 := by
  have hint0 : IntP false 0 [] := ⟨[], rfl, (fun _ h => by cases h), rfl⟩
  have hint1 : IntP true 0 ([] ++ [45]) := ⟨[], rfl, (fun _ h => by cases h), rfl⟩
  obtain ⟨m, hm⟩ : ∃ m : Nat, min (nd : Int) dp = m := ⟨(min (nd : Int) dp).toNat, by omega⟩
  have m1 : m ≤ nd := by omega
  have m2 : (m : Int) ≤ dp := by omega
  have m3 : m ≤ Ln := by omega
  cases neg
  case' false =>
    go_enter Tryz.func150, Tryz.ntmps150
    go_wp2_with fail
    have hint := hint0
  case' true =>
    go_enter Tryz.func150, Tryz.ntmps150
    go_wp2_with (at_builtin; go_must (refine appB rfl _ _ rfl hown rfl rfl (by simp) ?_; intro v1 w1 h1 hd1))
    have hint := hint1
    have hown := h1
    have hd := hd1 _ _ hd
    clear hd1
  all_goals
    clear hint0 hint1
    go_loopw [0, 191] (fun v i wr => ∃ (k : Nat) (bs : List Int), k ≤ m ∧ i = .int .i64 k ∧ Own a0 wr v bs ∧ IntP _ k bs ∧ Digs wr B nd) (fun _ i _ => m - (intOf i).toNat)
    case atStart => exact ⟨0, _, by omega, rfl, hown, hint, hd⟩
    case round =>
      clear hown hint hd
      obtain ⟨k, bs, hk, rfl, ho, hi, hd⟩ := hrel
      by_cases hlt : k < m
      · obtain ⟨c, c1, c2, hc⟩ := hd.dig k (by omega)
        have hb := hi.len
        go_wp2_with (at_builtin; go_must (refine appB rfl _ _ rfl ho rfl rfl (by omega) ?_; intro v1 w1 h1 hd1))
        go_roundw
        case rel => exact ⟨k + 1, _, by omega, by go_num, h1, hi.snoc c1 c2, hd1 _ _ hd⟩
        case measure => simp [intOf]; omega
      · obtain rfl : k = m := by omega
        go_wp2_with fail
        go_loopw [0, 203] (fun v i wr => ∃ (j : Nat) (bs : List Int), (k : Int) + j ≤ dp ∧ i = .int .i64 j ∧ Own a0 wr v bs ∧ IntP _ (k + j) bs ∧ Digs wr B nd) (fun _ i _ => dp.toNat - (intOf i).toNat)
        case atStart => exact ⟨0, _, by omega, rfl, ho, hi, hd⟩
        case round =>
          clear ho hi hd
          obtain ⟨j, bs, hj, rfl, ho, hi, hd⟩ := hrel
          have hb := hi.len
          by_cases hlt2 : (k : Int) + j < dp
          · go_wp2_with (at_builtin; go_must (refine appB rfl _ _ rfl ho rfl rfl (by omega) ?_; intro v1 w1 h1 hd1))
            go_roundw
            case rel => exact ⟨j + 1, _, by omega, by go_num, h1, hi.snoc (by decide) (by decide), hd1 _ _ hd⟩
            case measure => simp [intOf]; omega
          · have hdj : (k : Int) + j = dp := by omega
            have z1 : min (12 : Int) (max 0 (-dp)) = 0 := by omega
            obtain ⟨M, zM⟩ : ∃ M : Nat, min (12 : Int) (max 0 ((nd : Int) - dp)) = M := ⟨(min (12 : Int) (max 0 ((nd : Int) - dp))).toNat, by omega⟩
            obtain ⟨T, zT⟩ : ∃ T : Nat, max (0 : Int) (12 - (M : Int)) = T := ⟨(max (0 : Int) (12 - (M : Int))).toNat, by omega⟩
            have hMT : M + T = 12 := by omega
            have hMn : 0 < M → (M : Int) ≤ nd - dp := by omega
            go_wp2_with (at_builtin; go_must (refine appB rfl _ _ rfl ho rfl rfl (by omega) ?_; intro v1 w1 h1 hd1))
            have hf := hi.point
            have hd := hd1 _ _ hd
            clear ho hi hd1
            refine wp_loop_once ?_
            go_wp2_with fail
            go_loopw [0, 247] (fun v i wr => ∃ (q : Nat) (bs : List Int), q ≤ M ∧ i = .int .i64 q ∧ Own a0 wr v bs ∧ FracP _ (k + j) q bs ∧ Digs wr B nd) (fun _ i _ => M - (intOf i).toNat)
            case atStart => exact ⟨0, _, by omega, rfl, h1, hf, hd⟩
            case round =>
              clear h1 hf hd
              obtain ⟨q, bs, hq, rfl, ho, hi, hd⟩ := hrel
              have hb := hi.len
              by_cases hlt3 : q < M
              · obtain ⟨c, c1, c2, hc⟩ := hd.dig (k + j + q) (by omega)
                have hc' : wr.cell? ⟨B, (dp + (q : Int)).toNat, none⟩ = some (.int .u8 c) := by rw [show (dp + (q : Int)).toNat = k + j + q by omega]; exact hc
                go_wp2_with (at_builtin; go_must (refine appB rfl _ _ rfl ho rfl rfl (by omega) ?_; intro v1 w1 h1 hd1))
                go_roundw
                case rel => exact ⟨q + 1, _, by omega, by go_num, h1, hi.snoc c1 c2, hd1 _ _ hd⟩
                case measure => simp [intOf]; omega
              · obtain rfl : q = M := by omega
                go_wp2_with fail
                go_loopw [0, 261] (fun v i wr => ∃ (r : Nat) (bs : List Int), r ≤ T ∧ i = .int .i64 r ∧ Own a0 wr v bs ∧ FracP _ (k + j) (q + r) bs) (fun _ i _ => T - (intOf i).toNat)
                case atStart => exact ⟨0, _, by omega, rfl, ho, hi⟩
                case round =>
                  clear ho hi hd
                  obtain ⟨r, bs, hr, rfl, ho, hi⟩ := hrel
                  have hb := hi.len
                  by_cases hlt4 : r < T
                  · go_wp2_with (at_builtin; go_must (refine appB rfl _ _ rfl ho rfl rfl (by omega) ?_; intro v1 w1 h1 hd1))
                    go_roundw
                    case rel => exact ⟨r + 1, _, by omega, by go_num, h1, hi.snoc (by decide) (by decide)⟩
                    case measure => simp [intOf]; omega
                  · obtain rfl : r = T := by omega
                    go_wp2_with fail
                    go_ret
                    rw [hMT] at hi
                    exact ⟨_, bs, k + j, rfl, ho, hi, by omega, by omega⟩
end Go.Proofs.YtfkecmlmnhbmoaaGreatDoor
namespace Go.Proofs.YtfkecmlmnhbmoaaGreatDoor
open Go.RowKit Go.Sort
set_option maxRecDepth 100000 in
set_option maxHeartbeats 4000000 in
theorem efg_non (neg : Bool) (v0 sv : Value) (dp : Int) (nd : Nat) (a0 w : World) (hown : Own a0 w v0 []) (hdp : -2000 ≤ dp) (hdp2 : dp ≤ 0) (hnd : nd ≤ 800)
    (hs : nd = 0 ∨ ∃ B L, sv = .slice (some ⟨B, 0, none⟩) L L ∧ nd ≤ L ∧ L ≤ 800 ∧ Digs w B nd) :
    Calls Tryz.prog 150 #[v0, .bool neg, sv, .int .i64 dp, .int .i64 nd, .int .i64 12, .int .u8 102, .bool false] w fun en w' =>
      ∃ v bs L, en = .returned v ∧ Own a0 w' v bs ∧ FracP neg L 12 bs ∧ 1 ≤ L ∧ L ≤ 37 := by
  have hint0 : IntP false 0 [] := ⟨[], rfl, (fun _ h => by cases h), rfl⟩
  have hint1 : IntP true 0 ([] ++ [45]) := ⟨[], rfl, (fun _ h => by cases h), rfl⟩
  obtain ⟨Z, zZ⟩ : ∃ Z : Nat, min (12 : Int) (max 0 (-dp)) = Z := ⟨(min (12 : Int) (max 0 (-dp))).toNat, by omega⟩
  obtain ⟨M, zM⟩ : ∃ M : Nat, min (12 - (Z : Int)) (max 0 ((nd : Int) - (dp + Z))) = M := ⟨(min (12 - (Z : Int)) (max 0 ((nd : Int) - (dp + Z)))).toNat, by omega⟩
  obtain ⟨T, zT⟩ : ∃ T : Nat, max (0 : Int) (12 - (Z : Int) - (M : Int)) = T := ⟨(max (0 : Int) (12 - (Z : Int) - (M : Int))).toNat, by omega⟩
  have hMT : Z + M + T = 12 := by omega
  have hMn : 0 < M → dp + Z = 0 ∧ M ≤ nd := by omega
  have hd : ∀ W : World, (∀ B n, Digs w B n → Digs W B n) → 0 < M → ∃ B L, sv = .slice (some ⟨B, 0, none⟩) L L ∧ nd ≤ L ∧ L ≤ 800 ∧ Digs W B nd := fun W hW h => by
    rcases hs with hs | ⟨B, L, h1, h2, h3, h4⟩
    · have := hMn h; omega
    · exact ⟨B, L, h1, h2, h3, hW _ _ h4⟩
  have hW : ∀ B n, Digs w B n → Digs w B n := fun _ _ h => h
  have HD := Lib.hid hd; clear hd hs
  cases neg
  case' false =>
    go_enter Tryz.func150, Tryz.ntmps150
    go_wp2_with (first
      | (at_builtin; refine appB rfl _ _ rfl hown rfl rfl (by decide) ?_; intro v2 w2 h2 hd2; have hW := fun B n h => hd2 B n (hW B n h); clear hown hd2)
      | (at_builtin; refine appB rfl _ _ rfl h2 rfl rfl (by decide) ?_; intro v3 w3 h3 hd3; have hW := fun B n h => hd3 B n (hW B n h); clear h2 hd3))
    have hf := (hint0.snoc (c := 48) (by decide) (by decide)).point
  case' true =>
    go_enter Tryz.func150, Tryz.ntmps150
    go_wp2_with (first
      | (at_builtin; refine appB rfl _ _ rfl hown rfl rfl (by decide) ?_; intro v1 w1 h1 hd1; have hW := fun B n h => hd1 B n (hW B n h); clear hown hd1)
      | (at_builtin; refine appB rfl _ _ rfl h1 rfl rfl (by decide) ?_; intro v2 w2 h2 hd2; have hW := fun B n h => hd2 B n (hW B n h); clear h1 hd2)
      | (at_builtin; refine appB rfl _ _ rfl h2 rfl rfl (by decide) ?_; intro v3 w3 h3 hd3; have hW := fun B n h => hd3 B n (hW B n h); clear h2 hd3))
    have hf := (hint1.snoc (c := 48) (by decide) (by decide)).point
  all_goals
    have HW := Lib.hid hW; clear hW hint0 hint1
    go_loopw [0, 240] (fun v i wr => ∃ (q : Nat) (bs : List Int), q ≤ Z ∧ i = .int .i64 q ∧ Own a0 wr v bs ∧ FracP _ 1 q bs ∧ (∀ B n, Digs w B n → Digs wr B n)) (fun _ i _ => Z - (intOf i).toNat)
    case atStart => exact ⟨0, _, by omega, rfl, h3, hf, HW.out⟩
    case round =>
      clear h3 hf HW
      obtain ⟨q, bs, hq, rfl, ho, hi, hd⟩ := hrel
      have hb := hi.len
      by_cases hlt3 : q < Z
      · go_wp2_with (at_builtin; go_must (refine appB rfl _ _ rfl ho rfl rfl (by omega) ?_; intro v1 w1 h1 hd1))
        go_roundw
        case rel => exact ⟨q + 1, _, by omega, by go_num, h1, hi.snoc (by decide) (by decide), fun B n h => hd1 B n (hd B n h)⟩
        case measure => simp [intOf]; omega
      · obtain rfl : q = Z := by omega
        go_wp2_with fail
        go_loopw [0, 247] (fun v i wr => ∃ (r : Nat) (bs : List Int), r ≤ M ∧ i = .int .i64 r ∧ Own a0 wr v bs ∧ FracP _ 1 (q + r) bs ∧ (∀ B n, Digs w B n → Digs wr B n)) (fun _ i _ => M - (intOf i).toNat)
        case atStart => exact ⟨0, _, by omega, rfl, ho, hi, hd⟩
        case round =>
          clear ho hi hd
          obtain ⟨r, bs, hr, rfl, ho, hi, hd⟩ := hrel
          have hb := hi.len
          by_cases hlt4 : r < M
          · obtain ⟨B, L, rfl, hL1, hL2, hD⟩ := HD.out _ hd (by omega)
            obtain ⟨c, c1, c2, hc⟩ := hD.dig r (by have := hMn (by omega); omega)
            have hc' : wr.cell? ⟨B, (dp + (q : Int) + (r : Int)).toNat, none⟩ = some (.int .u8 c) := by rw [show (dp + (q : Int) + (r : Int)).toNat = r by have := hMn (by omega); omega]; exact hc
            go_wp2_with (at_builtin; go_must (refine appB rfl _ _ rfl ho rfl rfl (by omega) ?_; intro v1 w1 h1 hd1))
            go_roundw
            case rel =>
              first | exact ⟨r + 1, _, by omega, by go_num, h1, hi.snoc c1 c2, fun B n h => hd1 B n (hd B n h)⟩ | ((repeat apply Exists.intro); exact ⟨⟨r + 1, _, by omega, by go_num, h1, hi.snoc c1 c2, fun B n h => hd1 B n (hd B n h)⟩, rfl⟩)
            case measure => simp [intOf]; omega
          · obtain rfl : r = M := by omega
            go_wp2_with fail
            go_loopw [0, 261] (fun v i wr => ∃ (s : Nat) (bs : List Int), s ≤ T ∧ i = .int .i64 s ∧ Own a0 wr v bs ∧ FracP _ 1 (q + r + s) bs) (fun _ i _ => T - (intOf i).toNat)
            case atStart => exact ⟨0, _, by omega, rfl, ho, hi⟩
            case round =>
              clear ho hi hd
              obtain ⟨s, bs, hs, rfl, ho, hi⟩ := hrel
              have hb := hi.len
              by_cases hlt5 : s < T
              · go_wp2_with (at_builtin; go_must (refine appB rfl _ _ rfl ho rfl rfl (by omega) ?_; intro v1 w1 h1 hd1))
                go_roundw
                case rel => exact ⟨s + 1, _, by omega, by go_num, h1, hi.snoc (by decide) (by decide)⟩
                case measure => simp [intOf]; omega
              · obtain rfl : s = T := by omega
                go_wp2_with fail
                go_ret
                rw [hMT] at hi
                exact ⟨_, bs, 1, rfl, ho, hi, by omega, by omega⟩
end Go.Proofs.YtfkecmlmnhbmoaaGreatDoor
