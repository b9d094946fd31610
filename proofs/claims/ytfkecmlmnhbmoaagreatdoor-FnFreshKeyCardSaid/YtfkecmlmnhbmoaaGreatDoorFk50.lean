import Derived.Test.YtfkecmlmnhbmoaaGreatDoorFk46
import Derived.Test.YtfkecmlmnhbmoaaGreatDoorFk49
import Derived.Lib.LaidU8
import Derived.Lib.LaidTab
import GoSem.PinnedTables
import Derived.OpenShut
import Derived.Test.YtfkecmlmnhbmoaaGreatDoorFk22
namespace Go.Proofs.YtfkecmlmnhbmoaaGreatDoor
open Go.RowKit Go.ChangeShapes Go.Lib
theorem varBy {w : World} {n : String} {g t : Nat} {d : DataW Unit} (hn : Tryz.prog.globalNamed n = some g) (hy : (Tryz.prog.globals[g]?).map (·.type) = some t) (h : VarReads Tryz.prog w n d) :
    ∃ cs fuel p, w.var? Tryz.prog n = some cs ∧ DataW.trod (fun _ => ()) Tryz.prog w 0 (fun _ => true) false fuel t cs.toList = some (d, p) := by
  obtain ⟨g', t', cs, fuel, p, h1, h2, h3, h4⟩ := h
  obtain rfl := Option.some.inj (hn.symm.trans h1)
  obtain rfl := Option.some.inj (hy.symm.trans h2)
  exact ⟨cs, fuel, p, h3, h4⟩
theorem cs_at {cs : Array Value} {l : List Value} (h : cs.toList = l) (i : Nat) : cs[i]? = l[i]? := by rw [← h, Array.getElem?_toList]
/-- A slice of one-cell elements, with nothing behind its length. -/
theorem sliceBy {w : World} {t e fuel : Nat} {cs : List Value} {es : List (DataW Unit)} {p : List MemPlace} (ht : Tryz.prog.underlying t = some (.slice e)) (hl : 0 < es.length) (h : DataW.trod (fun _ => ()) Tryz.prog w 0 (fun _ => true) false fuel t cs = some (.slice es [], p)) :
    ∃ a m, cs = [.slice (some a) es.length es.length] ∧ ∀ i (hi : i < es.length), ∃ c q, w.cells? 0 (a.add (i * Tryz.prog.cellsOf e)) (Tryz.prog.cellsOf e) = some c ∧ DataW.trod (fun _ => ()) Tryz.prog w 0 (fun _ => true) false m e c = some (es[i], q) := by
  rcases DataW.trod_slice ht h with ⟨_, hx⟩ | ⟨a, len, cap, elems, rest, n, rfl, rfl, hx, _, hlc, _, hlen, hel, hsp, _⟩
  · cases hx
  · have hd := congrArg Prod.fst hx
    simp only [DataW.slice.injEq] at hd
    obtain ⟨h1, h2⟩ := hd
    have hr : rest.length = 0 := by have := congrArg List.length h2; simpa using this.symm
    have h3 := (hsp rfl).1
    have hel2 : es.length = len := by rw [h1, List.length_map, hlen]
    obtain rfl : cap = len := by omega
    refine ⟨a, n, by rw [hel2], fun i hi => ?_⟩
    have hi2 : i < elems.length := by omega
    have h4 := hel i (by omega)
    rw [List.getElem?_eq_getElem hi2] at h4
    obtain ⟨c, hc, ht2⟩ := Option.bind_eq_some_iff.1 h4
    refine ⟨c, elems[i].2, hc, ?_⟩
    rw [ht2]
    subst h1
    simp
theorem litInt {fuel : Nat} {w : World} {t : Nat} {k : IntKind} {cs : List Value} {z : Int} {q : List MemPlace} (ht : Tryz.prog.underlying t = some (.int k)) (h : DataW.trod (fun _ => ()) Tryz.prog w 0 (fun _ => true) false fuel t cs = some (.lit (.int k z), q)) : cs = [.int k z] := by
  obtain ⟨n, hc, hx, _⟩ := DataW.trod_int ht h
  simp only [Prod.mk.injEq, DataW.lit.injEq, Lit.int.injEq, true_and] at hx
  rw [hc, hx.1]
theorem one_at {w : World} {a : Addr} {i : Nat} {v : Value} (h : w.cells? 0 (a.add (i * 1)) 1 = some [v]) : w.cell? (a.add i) = some v := by
  obtain ⟨_, _, hc⟩ := World.cells?_some h
  have := hc 0 (by omega)
  rw [add_add7] at this
  simpa using this
theorem g10 : Tryz.prog.globalNamed "internal/strconv.optimize" = some 10 := by kernel_rfl
theorem y10 : (Tryz.prog.globals[10]?).map (·.type) = some 4 := by kernel_rfl
theorem g2 : Tryz.prog.globalNamed "internal/strconv.uint64pow10" = some 2 := by kernel_rfl
theorem y2 : (Tryz.prog.globals[2]?).map (·.type) = some 208 := by kernel_rfl
theorem g18 : Tryz.prog.globalNamed "internal/strconv.float64info" = some 18 := by kernel_rfl
theorem y18 : (Tryz.prog.globals[18]?).map (·.type) = some 276 := by kernel_rfl
theorem g22 : Tryz.prog.globalNamed "internal/strconv.powtab" = some 22 := by kernel_rfl
theorem y22 : (Tryz.prog.globals[22]?).map (·.type) = some 121 := by kernel_rfl
theorem g23 : Tryz.prog.globalNamed "internal/strconv.float64pow10" = some 23 := by kernel_rfl
theorem y23 : (Tryz.prog.globals[23]?).map (·.type) = some 320 := by kernel_rfl
theorem g24 : Tryz.prog.globalNamed "internal/strconv.pow10Tab" = some 24 := by kernel_rfl
theorem y24 : (Tryz.prog.globals[24]?).map (·.type) = some 324 := by kernel_rfl
theorem g25 : Tryz.prog.globalNamed "internal/strconv.leftcheats" = some 25 := by kernel_rfl
theorem y25 : (Tryz.prog.globals[25]?).map (·.type) = some 330 := by kernel_rfl
theorem Tryz.cells276 : Tryz.prog.cellsOf 276 = 3 := by kernel_rfl
theorem Tryz.cells212 : Tryz.prog.cellsOf 212 = 1 := by kernel_rfl
theorem Tryz.cells157 : Tryz.prog.cellsOf 157 = 1 := by kernel_rfl
theorem Tryz.cells208 : Tryz.prog.cellsOf 208 = 20 := by kernel_rfl
theorem Tryz.cells323 : Tryz.prog.cellsOf 323 = 2 := by kernel_rfl
theorem Tryz.cells324 : Tryz.prog.cellsOf 324 = 1392 := by kernel_rfl
theorem Tryz.cells329 : Tryz.prog.cellsOf 329 = 2 := by kernel_rfl
theorem optBy {w : World} (h : VarReads Tryz.prog w "internal/strconv.optimize" (.lit (.bool true))) : w.cell? ⟨10, 0, none⟩ = some (.bool true) := by
  obtain ⟨cs, fuel, p, hv, ht⟩ := varBy g10 y10 h
  obtain ⟨b, hc, hx⟩ := DataW.trod_bool Tryz.underlying4 ht
  simp only [Prod.mk.injEq, DataW.lit.injEq, Lit.bool.injEq] at hx
  rw [World.var?_cell g10 hv 0, cs_at hc, hx.1]; rfl
theorem tabBy {w : World} (h : VarReads Tryz.prog w "internal/strconv.uint64pow10" (tabData .u64 Lib.pow10Tab)) : Lib.TabIs Tryz.prog w "internal/strconv.uint64pow10" .u64 Lib.pow10Tab := by
  obtain ⟨cs, fuel, p, hv, ht⟩ := varBy g2 y2 h
  have := cells_of_tab Tryz.underlying208 Tryz.underlying157 Tryz.cells157 Tryz.cells208 ht
  unfold TabIs
  rw [hv, ← this]
set_option maxRecDepth 100000 in
theorem infoBy {w : World} (h : VarReads Tryz.prog w "internal/strconv.float64info" (.agg [.lit (.int .u64 52), .lit (.int .u64 11), .lit (.int .i64 (-1023))])) :
    w.cell? ⟨18, 0, none⟩ = some (.int .u64 52) ∧ w.cell? ⟨18, 1, none⟩ = some (.int .u64 11) ∧ w.cell? ⟨18, 2, none⟩ = some (.int .i64 (-1023)) := by
  obtain ⟨cs, fuel, p, hv, ht⟩ := varBy g18 y18 h
  obtain ⟨xs, n, rfl, hx, hlen, hxl, hf⟩ := DataW.trod_struct Tryz.underlying276 ht
  rw [Tryz.cells276] at hlen
  obtain ⟨cl, hcl⟩ : ∃ cl, cl = cs.toList := ⟨_, rfl⟩
  rw [← hcl] at hlen hf
  have hd := congrArg Prod.fst hx
  match xs, hxl, cl, hlen with
  | [⟨d0, p0⟩, ⟨d1, p1⟩, ⟨d2, p2⟩], _, [v0, v1, v2], _ =>
    simp only [List.map, DataW.agg.injEq, List.cons.injEq, and_true] at hd
    obtain ⟨rfl, rfl, rfl⟩ := hd
    have e0 := hf 0 _ rfl
    have e1 := hf 1 _ rfl
    have e2 := hf 2 _ rfl
    simp [Tryz.cells3, Tryz.cells212] at e0 e1 e2
    have f0 := litInt Tryz.underlying212 e0
    have f1 := litInt Tryz.underlying212 e1
    have f2 := litInt Tryz.underlying3 e2
    cases f0; cases f1; cases f2
    exact ⟨by rw [World.var?_cell g18 hv 0, cs_at hcl.symm]; rfl, by rw [World.var?_cell g18 hv 1, cs_at hcl.symm]; rfl, by rw [World.var?_cell g18 hv 2, cs_at hcl.symm]; rfl⟩
set_option maxRecDepth 100000 in
theorem tenBy {w : World} {d : DataW Unit} (h : VarReads Tryz.prog w "internal/strconv.pow10Tab" d) : ∀ i, i < 1392 → ∃ x, U x ∧ w.cell? ⟨24, i, none⟩ = some (.int .u64 x) := by
  obtain ⟨cs, fuel, p, hv, ht⟩ := varBy g24 y24 h
  obtain ⟨xs, m, rfl, hx, hlen, hxl, hf⟩ := DataW.trod_array Tryz.underlying324 ht
  rw [Tryz.cells324] at hlen
  intro i hi
  have hq : i / 2 < 696 := by omega
  have h1 := hf (i / 2) hq
  rw [Tryz.cells323, List.getElem?_eq_getElem (by omega)] at h1
  obtain ⟨c, hc⟩ : ∃ c, c = (cs.toList.drop (i / 2 * 2)).take 2 := ⟨_, rfl⟩
  rw [← hc] at h1
  obtain ⟨ys, n, rfl, hy, hl2, hyl, hg⟩ := DataW.trod_struct Tryz.underlying323 h1
  rw [Tryz.cells323] at hl2
  have hat : ∀ b, b < 2 → c[b]? = cs.toList[i / 2 * 2 + b]? := fun b hb => by
    rw [hc, List.getElem?_take_of_lt hb, List.getElem?_drop]
  have hr : i = i / 2 * 2 + 0 ∨ i = i / 2 * 2 + 1 := by omega
  have key : ∃ x, U x ∧ cs.toList[i]? = some (.int .u64 x) := by
    match ys, hyl, c, hl2 with
    | [y0, y1], _, [v0, v1], _ =>
      have e0 := hg 0 _ rfl
      have e1 := hg 1 _ rfl
      simp [Tryz.cells157] at e0 e1
      obtain ⟨x0, c0, _, w0⟩ := DataW.trod_int Tryz.underlying157 e0
      obtain ⟨x1, c1, _, w1⟩ := DataW.trod_int Tryz.underlying157 e1
      simp [Lit.wf, IntKind.min, IntKind.max, IntKind.signed, IntKind.bits] at w0 w1
      cases c0; cases c1
      rcases hr with hr | hr
      · exact ⟨x0, ⟨w0.1, by omega⟩, by rw [hr, ← hat 0 (by omega)]; rfl⟩
      · exact ⟨x1, ⟨w1.1, by omega⟩, by rw [hr, ← hat 1 (by omega)]; rfl⟩
  obtain ⟨x, hx, hk⟩ := key
  exact ⟨x, hx, by rw [World.var?_cell g24 hv i, ← Array.getElem?_toList]; exact hk⟩
end Go.Proofs.YtfkecmlmnhbmoaaGreatDoor
namespace Go.Proofs.YtfkecmlmnhbmoaaGreatDoor
open Go.RowKit Go.ChangeShapes Go.Lib
theorem powBy {w : World} {es : List (DataW Unit)} (hl : es.length = 23) (h : VarReads Tryz.prog w "internal/strconv.float64pow10" (.slice es [])) :
    ∃ b o, b < w.heap.size ∧ w.cell? ⟨23, 0, none⟩ = some (.slice (some ⟨b, o, none⟩) 23 23) ∧ ∀ i, i < 23 → ∃ r, w.cell? ⟨b, o + i, none⟩ = some (.float .f64 r) := by
  obtain ⟨cs, fuel, p, hv, ht⟩ := varBy g23 y23 h
  obtain ⟨a, m, hc, he⟩ := sliceBy Tryz.underlying320 (by omega) ht
  have key : ∀ i, i < 23 → ∃ r, w.cell? (a.add i) = some (.float .f64 r) := fun i hi => by
    obtain ⟨c, q, h1, h2⟩ := he i (by omega)
    obtain ⟨r, rfl, _⟩ := trodReal h2
    rw [Tryz.cells22] at h1
    exact ⟨r, one_at h1⟩
  obtain ⟨r0, hr0⟩ := key 0 (by omega)
  have ha := addr_none hr0
  refine ⟨a.block, a.off, lt_cell (cell_add hr0), ?_, fun i hi => ?_⟩
  · rw [World.var?_cell g23 hv 0, cs_at hc, ← ha, hl]; rfl
  · obtain ⟨r, hr⟩ := key i hi
    exact ⟨r, cell_add hr⟩
def ptab : List Nat := [1, 3, 6, 9, 13, 16, 19, 23, 26]
theorem powtBy {w : World} (h : VarReads Tryz.prog w "internal/strconv.powtab" (.slice (ptab.map fun (x : Nat) => .lit (.int .i64 (x : Int))) [])) :
    ∃ b o, b < w.heap.size ∧ w.cell? ⟨22, 0, none⟩ = some (.slice (some ⟨b, o, none⟩) 9 9) ∧ ∀ i, i < 9 → ∃ v : Nat, 1 ≤ v ∧ v ≤ 26 ∧ (i = 1 → v = 3) ∧ (2 ≤ i → 6 ≤ v) ∧ w.cell? ⟨b, o + i, none⟩ = some (.int .i64 v) := by
  obtain ⟨cs, fuel, p, hv, ht⟩ := varBy g22 y22 h
  obtain ⟨a, m, hc, he⟩ := sliceBy Tryz.underlying121 (by simp [ptab]) ht
  have key : ∀ i (hi : i < 9), w.cell? (a.add i) = some (.int .i64 ((ptab.getD i 0 : Nat) : Int)) := fun i hi => by
    obtain ⟨c, q, h1, h2⟩ := he i (by simpa [ptab] using hi)
    rw [List.getElem_map] at h2
    have h3 := litInt Tryz.underlying3 h2
    subst h3
    rw [Tryz.cells3] at h1
    rw [one_at h1]
    have hi' : i < ptab.length := hi
    simp [List.getD, List.getElem?_eq_getElem hi']
  have ha := addr_none (key 0 (by omega))
  refine ⟨a.block, a.off, lt_cell (cell_add (key 0 (by omega))), ?_, fun i hi => ⟨ptab.getD i 0, ?_, ?_, ?_, ?_, cell_add (key i hi)⟩⟩
  · rw [World.var?_cell g22 hv 0, cs_at hc, ← ha]; rfl
  all_goals (have hh : i = 0 ∨ i = 1 ∨ i = 2 ∨ i = 3 ∨ i = 4 ∨ i = 5 ∨ i = 6 ∨ i = 7 ∨ i = 8 := by omega)
  all_goals (rcases hh with rfl | rfl | rfl | rfl | rfl | rfl | rfl | rfl | rfl <;> simp [ptab])
/-- Digits that begin with no nought are those of their number. -/
theorem canon : ∀ (n : Nat) (l : List UInt8), l.length = n → l ≠ [] → (∀ c ∈ l, 48 ≤ c.toNat ∧ c.toNat ≤ 57) → l.head? ≠ some 48 → Lib.decDigits (decVal l) = l ∧ 1 ≤ decVal l := by
  intro n
  induction n with
  | zero => intro l hl hne; exact absurd (List.length_eq_zero_iff.1 hl) hne
  | succ n ih =>
    intro l hl hne hd h0
    obtain ⟨i, c, rfl⟩ : ∃ i c, l = i ++ [c] := ⟨l.dropLast, l.getLast hne, (List.dropLast_concat_getLast hne).symm⟩
    have hv : decVal (i ++ [c]) = decVal i * 10 + (c.toNat - 48) := by simp [decVal, List.foldl_append]
    have hc := hd c (by simp)
    have hcc : UInt8.ofNat (48 + (c.toNat - 48)) = c := by
      rw [show 48 + (c.toNat - 48) = c.toNat by omega]; exact UInt8.ofNat_toNat
    by_cases hi : i = []
    · subst hi
      have hv2 : decVal ([] ++ [c]) = c.toNat - 48 := by rw [hv]; simp [decVal]
      rw [hv2]
      have hc0 : c.toNat ≠ 48 := fun e => h0 (by
        have : c = 48 := UInt8.toNat_inj.1 (by rw [e]; rfl)
        rw [this]; rfl)
      rw [Lib.decDigits, dif_pos (by omega), hcc]
      exact ⟨rfl, by omega⟩
    · have hlen : i.length = n := by simpa using hl
      obtain ⟨h1, h2⟩ := ih i hlen hi (fun x hx => hd x (by simp [hx])) (by
        intro e; apply h0
        rw [List.head?_append, e]; rfl)
      rw [hv, Lib.decDigits, dif_neg (by omega)]
      rw [show (decVal i * 10 + (c.toNat - 48)) / 10 = decVal i by omega, show (decVal i * 10 + (c.toNat - 48)) % 10 = c.toNat - 48 by omega, h1, hcc]
      exact ⟨rfl, by omega⟩
def cheatOk (x : (Nat × List UInt8) × Nat) : Bool := x.1.1 == (if x.2 = 0 then 0 else Lib.nDigits (2 ^ x.2)) && (if x.2 = 0 then x.1.2 == [] else decVal x.1.2 == 5 ^ x.2 && !x.1.2.isEmpty && x.1.2.all (fun c => 48 ≤ c.toNat && c.toNat ≤ 57) && x.1.2.head? != some 48)
theorem cheat_rows : ((Go.Pinned.cheatRows.zipIdx.all cheatOk) && Go.Pinned.cheatRows.length == 61) = true := by decide +kernel
theorem cheat_at (i : Nat) (hi : i < 61) : ∃ x, Go.Pinned.cheatRows[i]? = some x ∧ x.1 = dlt i ∧ x.2 = cut i := by
  have h := cheat_rows
  rw [Bool.and_eq_true] at h
  have hl : Go.Pinned.cheatRows.length = 61 := by simpa using h.2
  have hil : i < Go.Pinned.cheatRows.length := by omega
  have h2 := List.all_eq_true.1 h.1 (Go.Pinned.cheatRows[i], i) (List.mem_zipIdx_iff_getElem?.2 (List.getElem?_eq_getElem hil))
  refine ⟨_, List.getElem?_eq_getElem hil, ?_⟩
  unfold cheatOk at h2
  simp only [Bool.and_eq_true] at h2
  refine ⟨by have := h2.1; simpa [dlt] using this, ?_⟩
  by_cases h0 : i = 0
  · have := h2.2; simp only [h0] at this ⊢; simpa [cut] using this
  · have h3 := h2.2
    rw [if_neg h0] at h3
    simp only [Bool.and_eq_true] at h3
    obtain ⟨⟨⟨h4, h5⟩, h6⟩, h7⟩ := h3
    have := (canon _ (Go.Pinned.cheatRows[i]).2 rfl (by simpa using h5) (fun c hc => by have := List.all_eq_true.1 h6 c hc; simpa using this) (by simpa using h7)).1
    unfold cut
    rw [if_neg h0, ← this, show decVal (Go.Pinned.cheatRows[i]).2 = 5 ^ i by simpa using h4]
set_option maxRecDepth 100000 in
theorem cheatBy {w : World} (h : VarReads Tryz.prog w "internal/strconv.leftcheats" Go.Pinned.leftcheats) : Cheat w.heap.size w := by
  obtain ⟨cs, fuel, p, hv, ht⟩ := varBy g25 y25 h
  have hl : Go.Pinned.cheatRows.length = 61 := by have := cheat_rows; rw [Bool.and_eq_true] at this; simpa using this.2
  unfold Go.Pinned.leftcheats at ht
  obtain ⟨a, m, hc, he⟩ := sliceBy Tryz.underlying330 (by rw [List.length_map, hl]; omega) ht
  have key : ∀ i, i < 61 → w.cell? (a.add (i * 2)) = some (.int .i64 (dlt i : Nat)) ∧ w.cell? (a.add (i * 2 + 1)) = some (.string ⟨(cut i).toArray⟩) := fun i hi => by
    obtain ⟨x, hx, e1, e2⟩ := cheat_at i hi
    obtain ⟨c, q, h1, h2⟩ := he i (by rw [List.length_map, hl]; exact hi)
    rw [List.getElem_map] at h2
    obtain ⟨hil, hxe⟩ := List.getElem?_eq_some_iff.1 hx
    rw [hxe] at h2
    rw [Tryz.cells329] at h1
    obtain ⟨ys, n, rfl, hy, hl2, hyl, hg⟩ := DataW.trod_struct Tryz.underlying329 h2
    rw [Tryz.cells329] at hl2
    have hd := congrArg Prod.fst hy
    match ys, hyl, c, hl2 with
    | [⟨d0, p0⟩, ⟨d1, p1⟩], _, [v0, v1], _ =>
      simp only [List.map, DataW.agg.injEq, List.cons.injEq, and_true] at hd
      obtain ⟨rfl, rfl⟩ := hd
      have f0 := hg 0 _ rfl
      have f1 := hg 1 _ rfl
      simp [Tryz.cells3, Tryz.cells9] at f0 f1
      have k0 := litInt Tryz.underlying3 f0
      obtain ⟨s, k1, hs, _⟩ := DataW.trod_string Tryz.underlying9 f1
      cases k0; cases k1
      simp only [Prod.mk.injEq, DataW.lit.injEq, Lit.string.injEq] at hs
      obtain ⟨_, _, hcc⟩ := World.cells?_some h1
      have c0 := hcc 0 (by omega)
      have c1 := hcc 1 (by omega)
      rw [add_add7] at c0 c1
      refine ⟨?_, ?_⟩
      · rw [show i * 2 = i * 2 + 0 by omega, c0, ← e1]; rfl
      · rw [c1, ← e2, hs.1]; simp
  have ha := addr_none (key 0 (by omega)).1
  refine ⟨a.block, a.off, 61, lt_cell (cell_add (key 0 (by omega)).1), ?_, fun i hi => ⟨?_, ?_⟩⟩
  · rw [World.var?_cell g25 hv 0, cs_at hc, ← ha, List.length_map, hl]; rfl
  · exact cell_add (key i hi).1
  · have := cell_add (key i hi).2
    rwa [show a.off + (i * 2 + 1) = a.off + i * 2 + 1 by omega] at this
end Go.Proofs.YtfkecmlmnhbmoaaGreatDoor
