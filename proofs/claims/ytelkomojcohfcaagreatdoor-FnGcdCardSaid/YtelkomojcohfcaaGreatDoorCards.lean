/-
  DERIVED. GIVEN WITH THE SEED: THE CARDS: each row of YtelkomojcohfcaaGreatDoorRows.lean that lists a variable, with what it lists TIED to the program's text (the seventh form; the later family's looks); each row that meets fmt, with fmt's text TOLD by the authors' own Lean function (tested against real Go, not proved from fmt's source: count such statements apart). THE CARD IS WHAT COUNTS. Prove the row's statement (the work); the ties are given (YtelkomojcohfcaaGreatDoorTie.lean); close each card by the builder's one call (the guide's Derived/Test/ToyasCard.lean, 'card_holds'). Laid BY PROGRAM, IN A SANDBOX (cutbox-door.mjs). By AI agents, Wed Nov 11 2026. No macro, syntax, notation, axiom, sorry.
-/
import Derived.Test.YtelkomojcohfcaaGreatDoorRows
import GoSem.ClaimSeven
namespace Go.Proofs.YtelkomojcohfcaaGreatDoor
namespace Rows

/-- THE TIED CARD OF 'laws.FnGcd'. -/
def fnGcdCard : Claim7 := { stood := { row := fnGcdRow, standIns := [], harness := (true, "9c2c5484249338b20aded97baf6c0c4a392feed3c48d8c8557cd24bbb1d397cb"), looks := true }, kinds := [], alts := [], laidByText := true, laidKinds := [.data, .data, .widerDeep, .widerDeep, .data, .data, .data, .data, .data, .sentinel, .sentinel, .pinned, .pinned], laidTests := true, laidLooks := .later }
def FnGcdCardSaid : Prop := Claim7.holds Tryz.pinned (.plain (OpenSpec.ofChange fnGcdSpec)) fnGcdCard

/-- THE SECOND FORM's CARD OF 'laws.FnGcd'. -/
def fnGcdUptoCard : Claim7 := { stood := { row := fnGcdUptoRow, standIns := [], harness := (true, "9c2c5484249338b20aded97baf6c0c4a392feed3c48d8c8557cd24bbb1d397cb"), looks := true }, kinds := [], alts := [], laidByText := true, laidKinds := [.data, .data, .widerDeep, .widerDeep, .data, .data, .data, .data, .data, .sentinel, .sentinel, .pinned, .pinned], laidTests := true, laidLooks := .later }
def FnGcdUptoCardSaid : Prop := Claim7.holds Tryz.pinned (.plain (OpenSpec.upto fnGcdSpec)) fnGcdUptoCard
end Rows
end Go.Proofs.YtelkomojcohfcaaGreatDoor
