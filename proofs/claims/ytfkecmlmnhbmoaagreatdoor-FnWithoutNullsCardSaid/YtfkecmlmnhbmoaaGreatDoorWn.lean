/- An array without its nulls has the others in their order: for every object, in every world that the row allows, the law FnWithoutNulls answers true. No premise beyond the given row: its tables of strconv as listed, inputs that can be read. -/
import Derived.Test.YtfkecmlmnhbmoaaGreatDoorWn40
import Derived.Test.YtfkecmlmnhbmoaaGreatDoorCards
import Derived.Test.YtfkecmlmnhbmoaaGreatDoorTie
import Derived.SevenTiedAt
namespace Go.Proofs.YtfkecmlmnhbmoaaGreatDoor
open Go
theorem fnWithoutNullsNamed : Tryz.prog.funcNamed "given.example/pub-foolscap/laws.FnWithoutNulls" = some 4 := by kernel_rfl
theorem fnWithoutNullsLooks : true = Tryz.prog.looks [] := by kernel_rfl
theorem fnWithoutNullsWants : ([26].all fun u => !Tryz.prog.wantsStandIn u) = true := by kernel_rfl
theorem FnWithoutNulls_card : Rows.FnWithoutNullsCardSaid :=
  Claim7.holds_tied_plain_at .later [] [.data, .data, .widerDeep, .widerDeep, .data, .data, .data, .data, .data, .sentinel, .sentinel, .pinned, .pinned] true (true, "feae1696433fd5e0a6157a692526322f6ce53b325ce86c101555566415978e55") true FnWithoutNulls_holds (fun _ h => by cases h) (by kernel_rfl) (fun _ h => by cases h) fnWithoutNulls_row_tie rfl ⟨rfl, rfl⟩ (by kernel_rfl) rfl
    (fun f fn hf hfn => by
      obtain rfl : f = 4 := Option.some.inj (fnWithoutNullsNamed.symm.trans hf) |>.symm
      obtain rfl : fn = Tryz.f4 := (Option.some.inj (Tryz.func4.symm.trans hfn)).symm
      exact ⟨fnWithoutNullsLooks, fun j t ht => by
        rw [Tryz.params4] at ht
        have hm : t ∈ [26] := by simpa using Array.mem_of_getElem? ht
        exact (show Tryz.prog.wantsStandIn t = false by simpa using List.all_eq_true.1 fnWithoutNullsWants t hm)⟩)
    (by kernel_rfl)
#print axioms FnWithoutNulls_card
end Go.Proofs.YtfkecmlmnhbmoaaGreatDoor
