/-
  DERIVED. GIVEN WITH THE SEED: THE CARDS: each row of YtkglbccdiofnkaaGreatDoorRows.lean that lists a variable, with what it lists TIED to the program's text (the seventh form; the later family's looks); each row that meets fmt, with fmt's text TOLD by the authors' own Lean function (tested against real Go, not proved from fmt's source: count such statements apart). THE CARD IS WHAT COUNTS. Prove the row's statement (the work); the ties are given (YtkglbccdiofnkaaGreatDoorTie.lean); close each card by the builder's one call (the guide's Derived/Test/ToyasCard.lean, 'card_holds'). Laid BY PROGRAM, IN A SANDBOX (cutbox-door.mjs). By AI agents, Wed Nov 11 2026. No macro, syntax, notation, axiom, sorry.
-/
import Derived.Test.YtkglbccdiofnkaaGreatDoorRows
import GoSem.ClaimSeven
namespace Go.Proofs.YtkglbccdiofnkaaGreatDoor
namespace Rows

/-- THE TIED CARD OF 'laws.FnProduct'. -/
def fnProductCard : Claim7 := { stood := { row := fnProductRow, standIns := [], harness := (true, "7c42bc3fa5672a00409c599e565320a348e7feb70f7a1766d109ffd3729c24e0"), looks := true }, kinds := [], alts := [], laidByText := true, laidKinds := [.data, .data, .widerDeep, .widerDeep, .data, .data, .data, .data, .data, .sentinel, .sentinel, .pinned, .pinned], laidTests := true, laidLooks := .later }
def FnProductCardSaid : Prop := Claim7.holds Tryz.pinned (.plain (OpenSpec.ofChange fnProductSpec)) fnProductCard

/-- THE TIED CARD OF 'laws.FnIndex'. -/
def fnIndexCard : Claim7 := { stood := { row := fnIndexRow, standIns := [], harness := (true, "7c42bc3fa5672a00409c599e565320a348e7feb70f7a1766d109ffd3729c24e0"), looks := true }, kinds := [], alts := [], laidByText := true, laidKinds := [.data, .data, .widerDeep, .widerDeep, .data, .data, .data, .data, .data, .sentinel, .sentinel, .pinned, .pinned], laidTests := true, laidLooks := .later }
def FnIndexCardSaid : Prop := Claim7.holds Tryz.pinned (.plain (OpenSpec.ofChange fnIndexSpec)) fnIndexCard

/-- THE TIED CARD OF 'laws.FnProper'. -/
def fnProperCard : Claim7 := { stood := { row := fnProperRow, standIns := [], harness := (true, "7c42bc3fa5672a00409c599e565320a348e7feb70f7a1766d109ffd3729c24e0"), looks := true }, kinds := [], alts := [], laidByText := true, laidKinds := [.data, .data, .data, .data, .data, .sentinel, .pinned, .pinned, .pinned, .pinned], laidTests := true, laidLooks := .later }
def FnProperCardSaid : Prop := Claim7.holds Tryz.pinned (.plain (OpenSpec.ofChange fnProperSpec)) fnProperCard

/-- THE TIED CARD OF 'laws.FnSmall'. -/
def fnSmallCard : Claim7 := { stood := { row := fnSmallRow, standIns := [], harness := (true, "7c42bc3fa5672a00409c599e565320a348e7feb70f7a1766d109ffd3729c24e0"), looks := true }, kinds := [], alts := [], laidByText := true, laidKinds := [.data, .data, .widerDeep, .widerDeep, .data, .data, .data, .data, .data, .sentinel, .sentinel, .pinned, .pinned], laidTests := true, laidLooks := .later }
def FnSmallCardSaid : Prop := Claim7.holds Tryz.pinned (.plain (OpenSpec.ofChange fnSmallSpec)) fnSmallCard

/-- THE TIED CARD OF 'laws.FnAverage'. -/
def fnAverageCard : Claim7 := { stood := { row := fnAverageRow, standIns := [], harness := (true, "7c42bc3fa5672a00409c599e565320a348e7feb70f7a1766d109ffd3729c24e0"), looks := true }, kinds := [], alts := [], laidByText := true, laidKinds := [.data, .data, .widerDeep, .widerDeep, .data, .data, .data, .data, .data, .sentinel, .sentinel, .pinned, .pinned], laidTests := true, laidLooks := .later }
def FnAverageCardSaid : Prop := Claim7.holds Tryz.pinned (.plain (OpenSpec.ofChange fnAverageSpec)) fnAverageCard

/-- THE TIED CARD OF 'laws.FnMin'. -/
def fnMinCard : Claim7 := { stood := { row := fnMinRow, standIns := [], harness := (true, "7c42bc3fa5672a00409c599e565320a348e7feb70f7a1766d109ffd3729c24e0"), looks := true }, kinds := [], alts := [], laidByText := true, laidKinds := [.data, .data, .widerDeep, .widerDeep, .data, .data, .data, .data, .data, .sentinel, .sentinel, .pinned, .pinned], laidTests := true, laidLooks := .later }
def FnMinCardSaid : Prop := Claim7.holds Tryz.pinned (.plain (OpenSpec.ofChange fnMinSpec)) fnMinCard

/-- THE SECOND FORM's CARD OF 'laws.FnProduct'. -/
def fnProductUptoCard : Claim7 := { stood := { row := fnProductUptoRow, standIns := [], harness := (true, "7c42bc3fa5672a00409c599e565320a348e7feb70f7a1766d109ffd3729c24e0"), looks := true }, kinds := [], alts := [], laidByText := true, laidKinds := [.data, .data, .widerDeep, .widerDeep, .data, .data, .data, .data, .data, .sentinel, .sentinel, .pinned, .pinned], laidTests := true, laidLooks := .later }
def FnProductUptoCardSaid : Prop := Claim7.holds Tryz.pinned (.plain (OpenSpec.upto fnProductSpec)) fnProductUptoCard

/-- THE SECOND FORM's CARD OF 'laws.FnIndex'. -/
def fnIndexUptoCard : Claim7 := { stood := { row := fnIndexUptoRow, standIns := [], harness := (true, "7c42bc3fa5672a00409c599e565320a348e7feb70f7a1766d109ffd3729c24e0"), looks := true }, kinds := [], alts := [], laidByText := true, laidKinds := [.data, .data, .widerDeep, .widerDeep, .data, .data, .data, .data, .data, .sentinel, .sentinel, .pinned, .pinned], laidTests := true, laidLooks := .later }
def FnIndexUptoCardSaid : Prop := Claim7.holds Tryz.pinned (.plain (OpenSpec.upto fnIndexSpec)) fnIndexUptoCard

/-- THE SECOND FORM's CARD OF 'laws.FnProper'. -/
def fnProperUptoCard : Claim7 := { stood := { row := fnProperUptoRow, standIns := [], harness := (true, "7c42bc3fa5672a00409c599e565320a348e7feb70f7a1766d109ffd3729c24e0"), looks := true }, kinds := [], alts := [], laidByText := true, laidKinds := [.data, .data, .data, .data, .data, .sentinel, .pinned, .pinned, .pinned, .pinned], laidTests := true, laidLooks := .later }
def FnProperUptoCardSaid : Prop := Claim7.holds Tryz.pinned (.plain (OpenSpec.upto fnProperSpec)) fnProperUptoCard

/-- THE SECOND FORM's CARD OF 'laws.FnSmall'. -/
def fnSmallUptoCard : Claim7 := { stood := { row := fnSmallUptoRow, standIns := [], harness := (true, "7c42bc3fa5672a00409c599e565320a348e7feb70f7a1766d109ffd3729c24e0"), looks := true }, kinds := [], alts := [], laidByText := true, laidKinds := [.data, .data, .widerDeep, .widerDeep, .data, .data, .data, .data, .data, .sentinel, .sentinel, .pinned, .pinned], laidTests := true, laidLooks := .later }
def FnSmallUptoCardSaid : Prop := Claim7.holds Tryz.pinned (.plain (OpenSpec.upto fnSmallSpec)) fnSmallUptoCard

/-- THE SECOND FORM's CARD OF 'laws.FnAverage'. -/
def fnAverageUptoCard : Claim7 := { stood := { row := fnAverageUptoRow, standIns := [], harness := (true, "7c42bc3fa5672a00409c599e565320a348e7feb70f7a1766d109ffd3729c24e0"), looks := true }, kinds := [], alts := [], laidByText := true, laidKinds := [.data, .data, .widerDeep, .widerDeep, .data, .data, .data, .data, .data, .sentinel, .sentinel, .pinned, .pinned], laidTests := true, laidLooks := .later }
def FnAverageUptoCardSaid : Prop := Claim7.holds Tryz.pinned (.plain (OpenSpec.upto fnAverageSpec)) fnAverageUptoCard

/-- THE SECOND FORM's CARD OF 'laws.FnMin'. -/
def fnMinUptoCard : Claim7 := { stood := { row := fnMinUptoRow, standIns := [], harness := (true, "7c42bc3fa5672a00409c599e565320a348e7feb70f7a1766d109ffd3729c24e0"), looks := true }, kinds := [], alts := [], laidByText := true, laidKinds := [.data, .data, .widerDeep, .widerDeep, .data, .data, .data, .data, .data, .sentinel, .sentinel, .pinned, .pinned], laidTests := true, laidLooks := .later }
def FnMinUptoCardSaid : Prop := Claim7.holds Tryz.pinned (.plain (OpenSpec.upto fnMinSpec)) fnMinUptoCard
end Rows
end Go.Proofs.YtkglbccdiofnkaaGreatDoor
