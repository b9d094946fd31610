/-
  DERIVED. GIVEN WITH THE SEED: THE CARDS: each row of YtfkecmlmnhbmoaaGreatDoorRows.lean that lists a variable, with what it lists TIED to the program's text (the seventh form; the later family's looks); each row that meets fmt, with fmt's text TOLD by the authors' own Lean function (tested against real Go, not proved from fmt's source: count such statements apart). THE CARD IS WHAT COUNTS. Prove the row's statement (the work); the ties are given (YtfkecmlmnhbmoaaGreatDoorTie.lean); close each card by the builder's one call (the guide's Derived/Test/ToyasCard.lean, 'card_holds'). Laid BY PROGRAM, IN A SANDBOX (cutbox-door.mjs). By AI agents, Wed Nov 11 2026. No macro, syntax, notation, axiom, sorry.
-/
import Derived.Test.YtfkecmlmnhbmoaaGreatDoorRows
import GoSem.ClaimSeven
namespace Go.Proofs.YtfkecmlmnhbmoaaGreatDoor
namespace Rows

/-- THE TIED CARD OF 'laws.FnFreshKey'. -/
def fnFreshKeyCard : Claim7 := { stood := { row := fnFreshKeyRow, standIns := [], harness := (true, "feae1696433fd5e0a6157a692526322f6ce53b325ce86c101555566415978e55"), looks := true }, kinds := [], alts := [], laidByText := true, laidKinds := [.data, .data, .widerDeep, .widerDeep, .data, .data, .data, .data, .data, .sentinel, .sentinel, .sentinel, .pinned, .pinned], laidTests := true, laidLooks := .later }
def FnFreshKeyCardSaid : Prop := Claim7.holds Tryz.pinned (.plain (OpenSpec.ofChange fnFreshKeySpec)) fnFreshKeyCard

/-- THE TIED CARD OF 'laws.FnWithoutNulls'. -/
def fnWithoutNullsCard : Claim7 := { stood := { row := fnWithoutNullsRow, standIns := [], harness := (true, "feae1696433fd5e0a6157a692526322f6ce53b325ce86c101555566415978e55"), looks := true }, kinds := [], alts := [], laidByText := true, laidKinds := [.data, .data, .widerDeep, .widerDeep, .data, .data, .data, .data, .data, .sentinel, .sentinel, .pinned, .pinned], laidTests := true, laidLooks := .later }
def FnWithoutNullsCardSaid : Prop := Claim7.holds Tryz.pinned (.plain (OpenSpec.ofChange fnWithoutNullsSpec)) fnWithoutNullsCard

/-- THE TIED CARD OF 'laws.FnDictSteps'. -/
def fnDictStepsCard : Claim7 := { stood := { row := fnDictStepsRow, standIns := [], harness := (true, "feae1696433fd5e0a6157a692526322f6ce53b325ce86c101555566415978e55"), looks := true }, kinds := [], alts := [], laidByText := true, laidKinds := [.data, .data, .widerDeep, .widerDeep, .data, .data, .data, .data, .data, .sentinel, .sentinel, .sentinel, .pinned, .pinned], laidTests := true, laidLooks := .later }
def FnDictStepsCardSaid : Prop := Claim7.holds Tryz.pinned (.plain (OpenSpec.ofChange fnDictStepsSpec)) fnDictStepsCard

/-- THE TIED CARD OF 'laws.FnDepth'. -/
def fnDepthCard : Claim7 := { stood := { row := fnDepthRow, standIns := [], harness := (true, "feae1696433fd5e0a6157a692526322f6ce53b325ce86c101555566415978e55"), looks := true }, kinds := [], alts := [], laidByText := true, laidKinds := [.data, .data, .widerDeep, .widerDeep, .data, .data, .data, .data, .data, .data, .sentinel, .sentinel, .sentinel, .sentinel, .sentinel, .sentinel, .sentinel, .sentinel, .sentinel, .sentinel, .sentinel, .sentinel, .sentinel, .sentinel, .sentinel, .pinned, .pinned, .pinned], laidTests := true, laidLooks := .later }
def FnDepthCardSaid : Prop := Claim7.holds Tryz.pinned (.plain (OpenSpec.ofChange fnDepthSpec)) fnDepthCard

/-- THE SECOND FORM's CARD OF 'laws.FnFreshKey'. -/
def fnFreshKeyUptoCard : Claim7 := { stood := { row := fnFreshKeyUptoRow, standIns := [], harness := (true, "feae1696433fd5e0a6157a692526322f6ce53b325ce86c101555566415978e55"), looks := true }, kinds := [], alts := [], laidByText := true, laidKinds := [.data, .data, .widerDeep, .widerDeep, .data, .data, .data, .data, .data, .sentinel, .sentinel, .sentinel, .pinned, .pinned], laidTests := true, laidLooks := .later }
def FnFreshKeyUptoCardSaid : Prop := Claim7.holds Tryz.pinned (.plain (OpenSpec.upto fnFreshKeySpec)) fnFreshKeyUptoCard

/-- THE SECOND FORM's CARD OF 'laws.FnWithoutNulls'. -/
def fnWithoutNullsUptoCard : Claim7 := { stood := { row := fnWithoutNullsUptoRow, standIns := [], harness := (true, "feae1696433fd5e0a6157a692526322f6ce53b325ce86c101555566415978e55"), looks := true }, kinds := [], alts := [], laidByText := true, laidKinds := [.data, .data, .widerDeep, .widerDeep, .data, .data, .data, .data, .data, .sentinel, .sentinel, .pinned, .pinned], laidTests := true, laidLooks := .later }
def FnWithoutNullsUptoCardSaid : Prop := Claim7.holds Tryz.pinned (.plain (OpenSpec.upto fnWithoutNullsSpec)) fnWithoutNullsUptoCard

/-- THE SECOND FORM's CARD OF 'laws.FnDictSteps'. -/
def fnDictStepsUptoCard : Claim7 := { stood := { row := fnDictStepsUptoRow, standIns := [], harness := (true, "feae1696433fd5e0a6157a692526322f6ce53b325ce86c101555566415978e55"), looks := true }, kinds := [], alts := [], laidByText := true, laidKinds := [.data, .data, .widerDeep, .widerDeep, .data, .data, .data, .data, .data, .sentinel, .sentinel, .sentinel, .pinned, .pinned], laidTests := true, laidLooks := .later }
def FnDictStepsUptoCardSaid : Prop := Claim7.holds Tryz.pinned (.plain (OpenSpec.upto fnDictStepsSpec)) fnDictStepsUptoCard

/-- THE SECOND FORM's CARD OF 'laws.FnDepth'. -/
def fnDepthUptoCard : Claim7 := { stood := { row := fnDepthUptoRow, standIns := [], harness := (true, "feae1696433fd5e0a6157a692526322f6ce53b325ce86c101555566415978e55"), looks := true }, kinds := [], alts := [], laidByText := true, laidKinds := [.data, .data, .widerDeep, .widerDeep, .data, .data, .data, .data, .data, .data, .sentinel, .sentinel, .sentinel, .sentinel, .sentinel, .sentinel, .sentinel, .sentinel, .sentinel, .sentinel, .sentinel, .sentinel, .sentinel, .sentinel, .sentinel, .pinned, .pinned, .pinned], laidTests := true, laidLooks := .later }
def FnDepthUptoCardSaid : Prop := Claim7.holds Tryz.pinned (.plain (OpenSpec.upto fnDepthSpec)) fnDepthUptoCard
end Rows
end Go.Proofs.YtfkecmlmnhbmoaaGreatDoor
