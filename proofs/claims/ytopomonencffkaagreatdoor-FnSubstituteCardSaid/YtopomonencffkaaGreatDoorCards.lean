/-
  DERIVED. GIVEN WITH THE SEED: THE CARDS: each row of YtopomonencffkaaGreatDoorRows.lean that lists a variable, with what it lists TIED to the program's text (the seventh form; the later family's looks); each row that meets fmt, with fmt's text TOLD by the authors' own Lean function (tested against real Go, not proved from fmt's source: count such statements apart). THE CARD IS WHAT COUNTS. Prove the row's statement (the work); the ties are given (YtopomonencffkaaGreatDoorTie.lean); close each card by the builder's one call (the guide's Derived/Test/ToyasCard.lean, 'card_holds'). Laid BY PROGRAM, IN A SANDBOX (cutbox-door.mjs). By AI agents, Wed Nov 11 2026. No macro, syntax, notation, axiom, sorry.
-/
import Derived.Test.YtopomonencffkaaGreatDoorRows
import GoSem.ClaimSeven
namespace Go.Proofs.YtopomonencffkaaGreatDoor
namespace Rows

/-- THE TIED CARD OF 'laws.FnProduct'. -/
def fnProductCard : Claim7 := { stood := { row := fnProductRow, standIns := [], harness := (true, "82ce7d381ee651ae4b9c3ce622b60ee3dcb01aa67e4547c6fbb9ff6e531a0553"), looks := true }, kinds := [], alts := [], laidByText := true, laidKinds := [.data, .data, .widerDeep, .widerDeep, .data, .data, .data, .data, .data, .sentinel, .sentinel, .pinned, .pinned], laidTests := true, laidLooks := .later }
def FnProductCardSaid : Prop := Claim7.holds Tryz.pinned (.plain (OpenSpec.ofChange fnProductSpec)) fnProductCard

/-- THE TIED CARD OF 'laws.FnSubstitute'. -/
def fnSubstituteCard : Claim7 := { stood := { row := fnSubstituteRow, standIns := [], harness := (true, "82ce7d381ee651ae4b9c3ce622b60ee3dcb01aa67e4547c6fbb9ff6e531a0553"), looks := true }, kinds := [], alts := [], laidByText := true, laidKinds := [.data, .data, .widerDeep, .widerDeep, .data, .data, .data, .data, .data, .sentinel, .sentinel, .pinned, .pinned], laidTests := true, laidLooks := .later }
def FnSubstituteCardSaid : Prop := Claim7.holds Tryz.pinned (.plain (OpenSpec.ofChange fnSubstituteSpec)) fnSubstituteCard

/-- THE TIED CARD OF 'laws.FnMid'. -/
def fnMidCard : Claim7 := { stood := { row := fnMidRow, standIns := [], harness := (true, "82ce7d381ee651ae4b9c3ce622b60ee3dcb01aa67e4547c6fbb9ff6e531a0553"), looks := true }, kinds := [], alts := [], laidByText := true, laidKinds := [.data, .data, .widerDeep, .widerDeep, .data, .data, .data, .data, .data, .sentinel, .sentinel, .pinned, .pinned], laidTests := true, laidLooks := .later }
def FnMidCardSaid : Prop := Claim7.holds Tryz.pinned (.plain (OpenSpec.ofChange fnMidSpec)) fnMidCard

/-- THE SECOND FORM's CARD OF 'laws.FnProduct'. -/
def fnProductUptoCard : Claim7 := { stood := { row := fnProductUptoRow, standIns := [], harness := (true, "82ce7d381ee651ae4b9c3ce622b60ee3dcb01aa67e4547c6fbb9ff6e531a0553"), looks := true }, kinds := [], alts := [], laidByText := true, laidKinds := [.data, .data, .widerDeep, .widerDeep, .data, .data, .data, .data, .data, .sentinel, .sentinel, .pinned, .pinned], laidTests := true, laidLooks := .later }
def FnProductUptoCardSaid : Prop := Claim7.holds Tryz.pinned (.plain (OpenSpec.upto fnProductSpec)) fnProductUptoCard

/-- THE SECOND FORM's CARD OF 'laws.FnSubstitute'. -/
def fnSubstituteUptoCard : Claim7 := { stood := { row := fnSubstituteUptoRow, standIns := [], harness := (true, "82ce7d381ee651ae4b9c3ce622b60ee3dcb01aa67e4547c6fbb9ff6e531a0553"), looks := true }, kinds := [], alts := [], laidByText := true, laidKinds := [.data, .data, .widerDeep, .widerDeep, .data, .data, .data, .data, .data, .sentinel, .sentinel, .pinned, .pinned], laidTests := true, laidLooks := .later }
def FnSubstituteUptoCardSaid : Prop := Claim7.holds Tryz.pinned (.plain (OpenSpec.upto fnSubstituteSpec)) fnSubstituteUptoCard

/-- THE SECOND FORM's CARD OF 'laws.FnMid'. -/
def fnMidUptoCard : Claim7 := { stood := { row := fnMidUptoRow, standIns := [], harness := (true, "82ce7d381ee651ae4b9c3ce622b60ee3dcb01aa67e4547c6fbb9ff6e531a0553"), looks := true }, kinds := [], alts := [], laidByText := true, laidKinds := [.data, .data, .widerDeep, .widerDeep, .data, .data, .data, .data, .data, .sentinel, .sentinel, .pinned, .pinned], laidTests := true, laidLooks := .later }
def FnMidUptoCardSaid : Prop := Claim7.holds Tryz.pinned (.plain (OpenSpec.upto fnMidSpec)) fnMidUptoCard
end Rows
end Go.Proofs.YtopomonencffkaaGreatDoor
