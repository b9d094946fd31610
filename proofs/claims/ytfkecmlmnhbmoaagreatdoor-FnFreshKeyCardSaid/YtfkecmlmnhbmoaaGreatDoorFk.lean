/- The next key with a beginning is that beginning and a number, the first from the given one on that the dictionary lacks: for every object, every beginning and every number that the row allows, in every world that it allows, the law FnFreshKey answers true. No premise beyond the given row: its tables of strconv as listed, inputs that can be read. -/
import Derived.Test.YtfkecmlmnhbmoaaGreatDoorFk54
import Derived.Test.YtfkecmlmnhbmoaaGreatDoorCards
import Derived.Test.YtfkecmlmnhbmoaaGreatDoorTie
import Derived.SevenTiedAt
namespace Go.Proofs.YtfkecmlmnhbmoaaGreatDoor
open Go
theorem fnFreshKeyNamed : Tryz.prog.funcNamed "given.example/pub-foolscap/laws.FnFreshKey" = some 3 := by kernel_rfl
theorem fnFreshKeyLooks : true = Tryz.prog.looks [] := by kernel_rfl
theorem fnFreshKeyWants : ([26, 9, 3].all fun u => !Tryz.prog.wantsStandIn u) = true := by kernel_rfl
theorem FnFreshKey_card : Rows.FnFreshKeyCardSaid :=
  Claim7.holds_tied_plain_at .later [] [.data, .data, .widerDeep, .widerDeep, .data, .data, .data, .data, .data, .sentinel, .sentinel, .sentinel, .pinned, .pinned] true (true, "feae1696433fd5e0a6157a692526322f6ce53b325ce86c101555566415978e55") true FnFreshKey_holds (fun _ h => by cases h) (by kernel_rfl) (fun _ h => by cases h) fnFreshKey_row_tie rfl ⟨rfl, rfl⟩ (by kernel_rfl) rfl
    (fun f fn hf hfn => by
      obtain rfl : f = 3 := Option.some.inj (fnFreshKeyNamed.symm.trans hf) |>.symm
      obtain rfl : fn = Tryz.f3 := (Option.some.inj (Tryz.func3.symm.trans hfn)).symm
      exact ⟨fnFreshKeyLooks, fun j t ht => by
        rw [Tryz.params3] at ht
        have hm : t ∈ [26, 9, 3] := by simpa using Array.mem_of_getElem? ht
        exact (show Tryz.prog.wantsStandIn t = false by simpa using List.all_eq_true.1 fnFreshKeyWants t hm)⟩)
    (by kernel_rfl)
#print axioms FnFreshKey_card
end Go.Proofs.YtfkecmlmnhbmoaaGreatDoor
