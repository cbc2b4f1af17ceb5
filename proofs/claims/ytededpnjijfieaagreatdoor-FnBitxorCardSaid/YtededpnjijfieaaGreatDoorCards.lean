/-
  DERIVED. GIVEN WITH THE SEED: THE CARDS: each row of YtededpnjijfieaaGreatDoorRows.lean that lists a variable, with what it lists TIED to the program's text (the seventh form; the later family's looks); each row that meets fmt, with fmt's text TOLD by the authors' own Lean function (tested against real Go, not proved from fmt's source: count such statements apart). THE CARD IS WHAT COUNTS. Prove the row's statement (the work); the ties are given (YtededpnjijfieaaGreatDoorTie.lean); close each card by the builder's one call (the guide's Derived/Test/ToyasCard.lean, 'card_holds'). Laid BY PROGRAM, IN A SANDBOX (cutbox-door.mjs). By AI agents, Wed Nov 11 2026. No macro, syntax, notation, axiom, sorry.
-/
import Derived.Test.YtededpnjijfieaaGreatDoorRows
import GoSem.ClaimSeven
namespace Go.Proofs.YtededpnjijfieaaGreatDoor
namespace Rows

/-- THE TIED CARD OF 'laws.FnIsodd'. -/
def fnIsoddCard : Claim7 := { stood := { row := fnIsoddRow, standIns := [], harness := (true, "0302cedaf9c470633c952f437f4a44968099246358095956ff6a1e09e5da4eeb"), looks := true }, kinds := [], alts := [], laidByText := true, laidKinds := [.data, .data, .widerDeep, .widerDeep, .data, .data, .data, .data, .data, .sentinel, .sentinel, .pinned, .pinned], laidTests := true, laidLooks := .later }
def FnIsoddCardSaid : Prop := Claim7.holds Tryz.pinned (.plain (OpenSpec.ofChange fnIsoddSpec)) fnIsoddCard

/-- THE TIED CARD OF 'laws.FnChar'. -/
def fnCharCard : Claim7 := { stood := { row := fnCharRow, standIns := [], harness := (true, "0302cedaf9c470633c952f437f4a44968099246358095956ff6a1e09e5da4eeb"), looks := true }, kinds := [], alts := [], laidByText := true, laidKinds := [.data, .data, .widerDeep, .widerDeep, .data, .data, .data, .data, .data, .sentinel, .sentinel, .pinned, .pinned], laidTests := true, laidLooks := .later }
def FnCharCardSaid : Prop := Claim7.holds Tryz.pinned (.plain (OpenSpec.ofChange fnCharSpec)) fnCharCard

/-- THE TIED CARD OF 'laws.FnFact'. -/
def fnFactCard : Claim7 := { stood := { row := fnFactRow, standIns := [], harness := (true, "0302cedaf9c470633c952f437f4a44968099246358095956ff6a1e09e5da4eeb"), looks := true }, kinds := [], alts := [], laidByText := true, laidKinds := [.data, .data, .widerDeep, .widerDeep, .data, .data, .data, .data, .data, .sentinel, .sentinel, .pinned, .pinned], laidTests := true, laidLooks := .later }
def FnFactCardSaid : Prop := Claim7.holds Tryz.pinned (.plain (OpenSpec.ofChange fnFactSpec)) fnFactCard

/-- THE TIED CARD OF 'laws.FnGestep'. -/
def fnGestepCard : Claim7 := { stood := { row := fnGestepRow, standIns := [], harness := (true, "0302cedaf9c470633c952f437f4a44968099246358095956ff6a1e09e5da4eeb"), looks := true }, kinds := [], alts := [], laidByText := true, laidKinds := [.data, .data, .widerDeep, .widerDeep, .data, .data, .data, .data, .data, .sentinel, .sentinel, .pinned, .pinned], laidTests := true, laidLooks := .later }
def FnGestepCardSaid : Prop := Claim7.holds Tryz.pinned (.plain (OpenSpec.ofChange fnGestepSpec)) fnGestepCard

/-- THE TIED CARD OF 'laws.FnBitxor'. -/
def fnBitxorCard : Claim7 := { stood := { row := fnBitxorRow, standIns := [], harness := (true, "0302cedaf9c470633c952f437f4a44968099246358095956ff6a1e09e5da4eeb"), looks := true }, kinds := [], alts := [], laidByText := true, laidKinds := [.data, .data, .widerDeep, .widerDeep, .data, .data, .data, .data, .data, .sentinel, .sentinel, .pinned, .pinned], laidTests := true, laidLooks := .later }
def FnBitxorCardSaid : Prop := Claim7.holds Tryz.pinned (.plain (OpenSpec.ofChange fnBitxorSpec)) fnBitxorCard

/-- THE TIED CARD OF 'laws.FnXor'. -/
def fnXorCard : Claim7 := { stood := { row := fnXorRow, standIns := [], harness := (true, "0302cedaf9c470633c952f437f4a44968099246358095956ff6a1e09e5da4eeb"), looks := true }, kinds := [], alts := [], laidByText := true, laidKinds := [.data, .data, .widerDeep, .widerDeep, .data, .data, .data, .data, .data, .sentinel, .sentinel, .pinned, .pinned], laidTests := true, laidLooks := .later }
def FnXorCardSaid : Prop := Claim7.holds Tryz.pinned (.plain (OpenSpec.ofChange fnXorSpec)) fnXorCard

/-- THE TIED CARD OF 'laws.FnXorNumbers'. -/
def fnXorNumbersCard : Claim7 := { stood := { row := fnXorNumbersRow, standIns := [], harness := (true, "0302cedaf9c470633c952f437f4a44968099246358095956ff6a1e09e5da4eeb"), looks := true }, kinds := [], alts := [], laidByText := true, laidKinds := [.data, .data, .widerDeep, .widerDeep, .data, .data, .data, .data, .data, .sentinel, .sentinel, .pinned, .pinned], laidTests := true, laidLooks := .later }
def FnXorNumbersCardSaid : Prop := Claim7.holds Tryz.pinned (.plain (OpenSpec.ofChange fnXorNumbersSpec)) fnXorNumbersCard

/-- THE TIED CARD OF 'laws.FnInt'. -/
def fnIntCard : Claim7 := { stood := { row := fnIntRow, standIns := [], harness := (true, "0302cedaf9c470633c952f437f4a44968099246358095956ff6a1e09e5da4eeb"), looks := true }, kinds := [], alts := [], laidByText := true, laidKinds := [.data, .data, .widerDeep, .widerDeep, .data, .data, .data, .data, .data, .sentinel, .sentinel, .pinned, .pinned], laidTests := true, laidLooks := .later }
def FnIntCardSaid : Prop := Claim7.holds Tryz.pinned (.plain (OpenSpec.ofChange fnIntSpec)) fnIntCard

/-- THE SECOND FORM's CARD OF 'laws.FnIsodd'. -/
def fnIsoddUptoCard : Claim7 := { stood := { row := fnIsoddUptoRow, standIns := [], harness := (true, "0302cedaf9c470633c952f437f4a44968099246358095956ff6a1e09e5da4eeb"), looks := true }, kinds := [], alts := [], laidByText := true, laidKinds := [.data, .data, .widerDeep, .widerDeep, .data, .data, .data, .data, .data, .sentinel, .sentinel, .pinned, .pinned], laidTests := true, laidLooks := .later }
def FnIsoddUptoCardSaid : Prop := Claim7.holds Tryz.pinned (.plain (OpenSpec.upto fnIsoddSpec)) fnIsoddUptoCard

/-- THE SECOND FORM's CARD OF 'laws.FnChar'. -/
def fnCharUptoCard : Claim7 := { stood := { row := fnCharUptoRow, standIns := [], harness := (true, "0302cedaf9c470633c952f437f4a44968099246358095956ff6a1e09e5da4eeb"), looks := true }, kinds := [], alts := [], laidByText := true, laidKinds := [.data, .data, .widerDeep, .widerDeep, .data, .data, .data, .data, .data, .sentinel, .sentinel, .pinned, .pinned], laidTests := true, laidLooks := .later }
def FnCharUptoCardSaid : Prop := Claim7.holds Tryz.pinned (.plain (OpenSpec.upto fnCharSpec)) fnCharUptoCard

/-- THE SECOND FORM's CARD OF 'laws.FnFact'. -/
def fnFactUptoCard : Claim7 := { stood := { row := fnFactUptoRow, standIns := [], harness := (true, "0302cedaf9c470633c952f437f4a44968099246358095956ff6a1e09e5da4eeb"), looks := true }, kinds := [], alts := [], laidByText := true, laidKinds := [.data, .data, .widerDeep, .widerDeep, .data, .data, .data, .data, .data, .sentinel, .sentinel, .pinned, .pinned], laidTests := true, laidLooks := .later }
def FnFactUptoCardSaid : Prop := Claim7.holds Tryz.pinned (.plain (OpenSpec.upto fnFactSpec)) fnFactUptoCard

/-- THE SECOND FORM's CARD OF 'laws.FnGestep'. -/
def fnGestepUptoCard : Claim7 := { stood := { row := fnGestepUptoRow, standIns := [], harness := (true, "0302cedaf9c470633c952f437f4a44968099246358095956ff6a1e09e5da4eeb"), looks := true }, kinds := [], alts := [], laidByText := true, laidKinds := [.data, .data, .widerDeep, .widerDeep, .data, .data, .data, .data, .data, .sentinel, .sentinel, .pinned, .pinned], laidTests := true, laidLooks := .later }
def FnGestepUptoCardSaid : Prop := Claim7.holds Tryz.pinned (.plain (OpenSpec.upto fnGestepSpec)) fnGestepUptoCard

/-- THE SECOND FORM's CARD OF 'laws.FnBitxor'. -/
def fnBitxorUptoCard : Claim7 := { stood := { row := fnBitxorUptoRow, standIns := [], harness := (true, "0302cedaf9c470633c952f437f4a44968099246358095956ff6a1e09e5da4eeb"), looks := true }, kinds := [], alts := [], laidByText := true, laidKinds := [.data, .data, .widerDeep, .widerDeep, .data, .data, .data, .data, .data, .sentinel, .sentinel, .pinned, .pinned], laidTests := true, laidLooks := .later }
def FnBitxorUptoCardSaid : Prop := Claim7.holds Tryz.pinned (.plain (OpenSpec.upto fnBitxorSpec)) fnBitxorUptoCard

/-- THE SECOND FORM's CARD OF 'laws.FnXor'. -/
def fnXorUptoCard : Claim7 := { stood := { row := fnXorUptoRow, standIns := [], harness := (true, "0302cedaf9c470633c952f437f4a44968099246358095956ff6a1e09e5da4eeb"), looks := true }, kinds := [], alts := [], laidByText := true, laidKinds := [.data, .data, .widerDeep, .widerDeep, .data, .data, .data, .data, .data, .sentinel, .sentinel, .pinned, .pinned], laidTests := true, laidLooks := .later }
def FnXorUptoCardSaid : Prop := Claim7.holds Tryz.pinned (.plain (OpenSpec.upto fnXorSpec)) fnXorUptoCard

/-- THE SECOND FORM's CARD OF 'laws.FnXorNumbers'. -/
def fnXorNumbersUptoCard : Claim7 := { stood := { row := fnXorNumbersUptoRow, standIns := [], harness := (true, "0302cedaf9c470633c952f437f4a44968099246358095956ff6a1e09e5da4eeb"), looks := true }, kinds := [], alts := [], laidByText := true, laidKinds := [.data, .data, .widerDeep, .widerDeep, .data, .data, .data, .data, .data, .sentinel, .sentinel, .pinned, .pinned], laidTests := true, laidLooks := .later }
def FnXorNumbersUptoCardSaid : Prop := Claim7.holds Tryz.pinned (.plain (OpenSpec.upto fnXorNumbersSpec)) fnXorNumbersUptoCard

/-- THE SECOND FORM's CARD OF 'laws.FnInt'. -/
def fnIntUptoCard : Claim7 := { stood := { row := fnIntUptoRow, standIns := [], harness := (true, "0302cedaf9c470633c952f437f4a44968099246358095956ff6a1e09e5da4eeb"), looks := true }, kinds := [], alts := [], laidByText := true, laidKinds := [.data, .data, .widerDeep, .widerDeep, .data, .data, .data, .data, .data, .sentinel, .sentinel, .pinned, .pinned], laidTests := true, laidLooks := .later }
def FnIntUptoCardSaid : Prop := Claim7.holds Tryz.pinned (.plain (OpenSpec.upto fnIntSpec)) fnIntUptoCard
end Rows
end Go.Proofs.YtededpnjijfieaaGreatDoor
