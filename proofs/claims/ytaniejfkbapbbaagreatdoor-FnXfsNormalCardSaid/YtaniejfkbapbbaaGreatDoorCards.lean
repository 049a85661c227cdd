/-
  DERIVED. GIVEN WITH THE SEED: THE CARDS: each row of YtaniejfkbapbbaaGreatDoorRows.lean that lists a variable, with what it lists TIED to the program's text (the seventh form; the later family's looks); each row that meets fmt, with fmt's text TOLD by the authors' own Lean function (tested against real Go, not proved from fmt's source: count such statements apart). THE CARD IS WHAT COUNTS. Prove the row's statement (the work); the ties are given (YtaniejfkbapbbaaGreatDoorTie.lean); close each card by the builder's one call (the guide's Derived/Test/ToyasCard.lean, 'card_holds'). Laid BY PROGRAM, IN A SANDBOX (cutbox-door.mjs). By AI agents, Wed Nov 11 2026. No macro, syntax, notation, axiom, sorry.
-/
import Derived.Test.YtaniejfkbapbbaaGreatDoorRows
import GoSem.ClaimSeven
namespace Go.Proofs.YtaniejfkbapbbaaGreatDoor
namespace Rows

/-- THE TIED CARD OF 'laws.FnXfsNormal'. -/
def fnXfsNormalCard : Claim7 := { stood := { row := fnXfsNormalRow, standIns := [], harness := (true, "3b96d3681b34054cccdac9406eb3c4f886c7a9d6f1dace8c445b88a44c7f676c"), looks := true }, kinds := [], alts := [], laidByText := true, laidKinds := [.data, .data, .widerDeep, .widerDeep, .data, .data, .data, .data, .data, .sentinel, .sentinel, .listed, .data, .pinned, .pinned], laidTests := true, laidLooks := .later }
def FnXfsNormalCardSaid : Prop := Claim7.holds Tryz.pinned (.plain (OpenSpec.ofChange fnXfsNormalSpec)) fnXfsNormalCard

/-- THE SECOND FORM's CARD OF 'laws.FnXfsNormal'. -/
def fnXfsNormalUptoCard : Claim7 := { stood := { row := fnXfsNormalUptoRow, standIns := [], harness := (true, "3b96d3681b34054cccdac9406eb3c4f886c7a9d6f1dace8c445b88a44c7f676c"), looks := true }, kinds := [], alts := [], laidByText := true, laidKinds := [.data, .data, .widerDeep, .widerDeep, .data, .data, .data, .data, .data, .sentinel, .sentinel, .listed, .data, .pinned, .pinned], laidTests := true, laidLooks := .later }
def FnXfsNormalUptoCardSaid : Prop := Claim7.holds Tryz.pinned (.plain (OpenSpec.upto fnXfsNormalSpec)) fnXfsNormalUptoCard
end Rows
end Go.Proofs.YtaniejfkbapbbaaGreatDoor
