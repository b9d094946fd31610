/- FnDepth, its tied card: for every two integers, arrays within one another that have more levels than are allowed are not parsed, those that have as many are; the law answers true. No condition beyond those of the given row. -/
import Derived.Test.YtfkecmlmnhbmoaaGreatDoorFnDepth
import Derived.Test.YtfkecmlmnhbmoaaGreatDoorCards
import Derived.Test.YtfkecmlmnhbmoaaGreatDoorTie
import Derived.SevenTiedAt
namespace Go.Proofs.YtfkecmlmnhbmoaaGreatDoor
open Go
theorem fnDepthNamed : Tryz.prog.funcNamed "given.example/pub-foolscap/laws.FnDepth" = some 6 := by kernel_rfl
theorem fnDepthLooks : true = Tryz.prog.looks [] := by kernel_rfl
theorem fnDepthWants : ([3, 3].all fun u => !Tryz.prog.wantsStandIn u) = true := by kernel_rfl
theorem FnDepth_card : Rows.FnDepthCardSaid :=
  Claim7.holds_tied_plain_at .later [] [.data, .data, .widerDeep, .widerDeep, .data, .data, .data, .data, .data, .data, .sentinel, .sentinel, .sentinel, .sentinel, .sentinel, .sentinel, .sentinel, .sentinel, .sentinel, .sentinel, .sentinel, .sentinel, .sentinel, .sentinel, .sentinel, .pinned, .pinned, .pinned] true (true, "feae1696433fd5e0a6157a692526322f6ce53b325ce86c101555566415978e55") true FnDepth_holds (fun _ h => by cases h) (by kernel_rfl) (fun _ h => by cases h) fnDepth_row_tie rfl ⟨rfl, rfl⟩ (by kernel_rfl) rfl
    (fun f fn hf hfn => by
      obtain rfl : f = 6 := Option.some.inj (fnDepthNamed.symm.trans hf) |>.symm
      obtain rfl : fn = Tryz.f6 := (Option.some.inj (Tryz.func6.symm.trans hfn)).symm
      exact ⟨fnDepthLooks, fun j t ht => by
        rw [Tryz.params6] at ht
        have hm : t ∈ [3, 3] := by simpa using Array.mem_of_getElem? ht
        exact (show Tryz.prog.wantsStandIn t = false by simpa using List.all_eq_true.1 fnDepthWants t hm)⟩)
    (by kernel_rfl)
#print axioms FnDepth_card
end Go.Proofs.YtfkecmlmnhbmoaaGreatDoor
