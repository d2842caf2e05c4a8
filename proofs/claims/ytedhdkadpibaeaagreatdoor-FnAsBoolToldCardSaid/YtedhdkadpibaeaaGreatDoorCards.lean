/-
  DERIVED. GIVEN WITH THE SEED: THE CARDS: each row of YtedhdkadpibaeaaGreatDoorRows.lean that lists a variable, with what it lists TIED to the program's text (the seventh form; the later family's looks); each row that meets fmt, with fmt's text TOLD by the authors' own Lean function (tested against real Go, not proved from fmt's source: count such statements apart). THE CARD IS WHAT COUNTS. Prove the row's statement (the work); the ties are given (YtedhdkadpibaeaaGreatDoorTie.lean); close each card by the builder's one call (the guide's Derived/Test/ToyasCard.lean, 'card_holds'). Laid BY PROGRAM, IN A SANDBOX (cutbox-door.mjs). By AI agents, Wed Nov 11 2026. No macro, syntax, notation, axiom, sorry.
-/
import Derived.Test.YtedhdkadpibaeaaGreatDoorRows
import GoSem.ClaimSeven
namespace Go.Proofs.YtedhdkadpibaeaaGreatDoor
namespace Rows

/-- THE TIED CARD OF 'laws.FnAsBoolTold'. -/
def fnAsBoolToldCard : Claim7 := { stood := { row := fnAsBoolToldRow, standIns := [], harness := (true, "7869b71943db1f3a5cea2294060a30f1976febe21248139c63e65a55ca6247fd"), looks := true }, kinds := [], alts := [], laidByText := true, laidKinds := [.data, .data, .widerDeep, .widerDeep, .data, .data, .data, .data, .data, .data, .sentinel, .sentinel, .data, .data, .pinned, .pinned, .pinned, .pinned], laidTests := true, laidLooks := .later }
def FnAsBoolToldCardSaid : Prop := Claim7.holds Tryz.pinned (.plain (OpenSpec.ofChange fnAsBoolToldSpec)) fnAsBoolToldCard

/-- THE SECOND FORM's CARD OF 'laws.FnAsBoolTold'. -/
def fnAsBoolToldUptoCard : Claim7 := { stood := { row := fnAsBoolToldUptoRow, standIns := [], harness := (true, "7869b71943db1f3a5cea2294060a30f1976febe21248139c63e65a55ca6247fd"), looks := true }, kinds := [], alts := [], laidByText := true, laidKinds := [.data, .data, .widerDeep, .widerDeep, .data, .data, .data, .data, .data, .data, .sentinel, .sentinel, .data, .data, .pinned, .pinned, .pinned, .pinned], laidTests := true, laidLooks := .later }
def FnAsBoolToldUptoCardSaid : Prop := Claim7.holds Tryz.pinned (.plain (OpenSpec.upto fnAsBoolToldSpec)) fnAsBoolToldUptoCard
end Rows
end Go.Proofs.YtedhdkadpibaeaaGreatDoor
