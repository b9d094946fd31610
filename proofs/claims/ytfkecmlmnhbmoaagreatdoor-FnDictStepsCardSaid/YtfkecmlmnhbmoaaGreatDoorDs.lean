/- A dictionary is a map from names to objects: for every object and all steps, in every world that the row allows, the law FnDictSteps answers true. No premise beyond the given row: its tables of strconv as listed, inputs that can be read. -/
import Derived.Test.YtfkecmlmnhbmoaaGreatDoorDs51
import Derived.Test.YtfkecmlmnhbmoaaGreatDoorCards
import Derived.Test.YtfkecmlmnhbmoaaGreatDoorTie
import Derived.SevenTiedAt
namespace Go.Proofs.YtfkecmlmnhbmoaaGreatDoor
open Go
theorem fnDictStepsNamed : Tryz.prog.funcNamed "given.example/pub-foolscap/laws.FnDictSteps" = some 5 := by kernel_rfl
theorem fnDictStepsLooks : true = Tryz.prog.looks [] := by kernel_rfl
theorem fnDictStepsWants : ([26, 42].all fun u => !Tryz.prog.wantsStandIn u) = true := by kernel_rfl
theorem FnDictSteps_card : Rows.FnDictStepsCardSaid :=
  Claim7.holds_tied_plain_at .later [] [.data, .data, .widerDeep, .widerDeep, .data, .data, .data, .data, .data, .sentinel, .sentinel, .sentinel, .pinned, .pinned] true (true, "feae1696433fd5e0a6157a692526322f6ce53b325ce86c101555566415978e55") true FnDictSteps_holds (fun _ h => by cases h) (by kernel_rfl) (fun _ h => by cases h) fnDictSteps_row_tie rfl ⟨rfl, rfl⟩ (by kernel_rfl) rfl
    (fun f fn hf hfn => by
      obtain rfl : f = 5 := Option.some.inj (fnDictStepsNamed.symm.trans hf) |>.symm
      obtain rfl : fn = Tryz.f5 := (Option.some.inj (Tryz.func5.symm.trans hfn)).symm
      exact ⟨fnDictStepsLooks, fun j t ht => by
        rw [Tryz.params5] at ht
        have hm : t ∈ [26, 42] := by simpa using Array.mem_of_getElem? ht
        exact (show Tryz.prog.wantsStandIn t = false by simpa using List.all_eq_true.1 fnDictStepsWants t hm)⟩)
    (by kernel_rfl)
#print axioms FnDictSteps_card
end Go.Proofs.YtfkecmlmnhbmoaaGreatDoor
