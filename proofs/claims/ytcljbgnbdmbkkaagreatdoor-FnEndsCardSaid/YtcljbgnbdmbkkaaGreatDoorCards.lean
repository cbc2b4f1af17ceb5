/-
  DERIVED. GIVEN WITH THE SEED: THE CARDS: each row of YtcljbgnbdmbkkaaGreatDoorRows.lean that lists a variable, with what it lists TIED to the program's text (the seventh form; the later family's looks); each row that meets fmt, with fmt's text TOLD by the authors' own Lean function (tested against real Go, not proved from fmt's source: count such statements apart). THE CARD IS WHAT COUNTS. Prove the row's statement (the work); the ties are given (YtcljbgnbdmbkkaaGreatDoorTie.lean); close each card by the builder's one call (the guide's Derived/Test/ToyasCard.lean, 'card_holds'). Laid BY PROGRAM, IN A SANDBOX (cutbox-door.mjs). By AI agents, Wed Nov 11 2026. No macro, syntax, notation, axiom, sorry.
-/
import Derived.Test.YtcljbgnbdmbkkaaGreatDoorRows
import GoSem.ClaimSeven
namespace Go.Proofs.YtcljbgnbdmbkkaaGreatDoor
namespace Rows

/-- THE TIED CARD OF 'laws.FnProduct'. -/
def fnProductCard : Claim7 := { stood := { row := fnProductRow, standIns := [], harness := (true, "8804fa332ba94db976f46c74cf0b1ce9c022a92e907c0b7eb4a9e77cf9225829"), looks := true }, kinds := [], alts := [], laidByText := true, laidKinds := [.data, .data, .widerDeep, .widerDeep, .data, .data, .data, .data, .data, .sentinel, .sentinel, .pinned, .pinned], laidTests := true, laidLooks := .later }
def FnProductCardSaid : Prop := Claim7.holds Tryz.pinned (.plain (OpenSpec.ofChange fnProductSpec)) fnProductCard

/-- THE TIED CARD OF 'laws.FnIndex'. -/
def fnIndexCard : Claim7 := { stood := { row := fnIndexRow, standIns := [], harness := (true, "8804fa332ba94db976f46c74cf0b1ce9c022a92e907c0b7eb4a9e77cf9225829"), looks := true }, kinds := [], alts := [], laidByText := true, laidKinds := [.data, .data, .widerDeep, .widerDeep, .data, .data, .data, .data, .data, .sentinel, .sentinel, .pinned, .pinned], laidTests := true, laidLooks := .later }
def FnIndexCardSaid : Prop := Claim7.holds Tryz.pinned (.plain (OpenSpec.ofChange fnIndexSpec)) fnIndexCard

/-- THE TIED CARD OF 'laws.FnSubstitute'. -/
def fnSubstituteCard : Claim7 := { stood := { row := fnSubstituteRow, standIns := [], harness := (true, "8804fa332ba94db976f46c74cf0b1ce9c022a92e907c0b7eb4a9e77cf9225829"), looks := true }, kinds := [], alts := [], laidByText := true, laidKinds := [.data, .data, .widerDeep, .widerDeep, .data, .data, .data, .data, .data, .sentinel, .sentinel, .pinned, .pinned], laidTests := true, laidLooks := .later }
def FnSubstituteCardSaid : Prop := Claim7.holds Tryz.pinned (.plain (OpenSpec.ofChange fnSubstituteSpec)) fnSubstituteCard

/-- THE TIED CARD OF 'laws.FnLeft'. -/
def fnLeftCard : Claim7 := { stood := { row := fnLeftRow, standIns := [], harness := (true, "8804fa332ba94db976f46c74cf0b1ce9c022a92e907c0b7eb4a9e77cf9225829"), looks := true }, kinds := [], alts := [], laidByText := true, laidKinds := [.data, .data, .widerDeep, .widerDeep, .data, .data, .data, .data, .data, .sentinel, .sentinel, .pinned, .pinned], laidTests := true, laidLooks := .later }
def FnLeftCardSaid : Prop := Claim7.holds Tryz.pinned (.plain (OpenSpec.ofChange fnLeftSpec)) fnLeftCard

/-- THE TIED CARD OF 'laws.FnEnds'. -/
def fnEndsCard : Claim7 := { stood := { row := fnEndsRow, standIns := [], harness := (true, "8804fa332ba94db976f46c74cf0b1ce9c022a92e907c0b7eb4a9e77cf9225829"), looks := true }, kinds := [], alts := [], laidByText := true, laidKinds := [.data, .data, .widerDeep, .widerDeep, .data, .data, .data, .data, .data, .sentinel, .sentinel, .pinned, .pinned], laidTests := true, laidLooks := .later }
def FnEndsCardSaid : Prop := Claim7.holds Tryz.pinned (.plain (OpenSpec.ofChange fnEndsSpec)) fnEndsCard

/-- THE TIED CARD OF 'laws.FnMid'. -/
def fnMidCard : Claim7 := { stood := { row := fnMidRow, standIns := [], harness := (true, "8804fa332ba94db976f46c74cf0b1ce9c022a92e907c0b7eb4a9e77cf9225829"), looks := true }, kinds := [], alts := [], laidByText := true, laidKinds := [.data, .data, .widerDeep, .widerDeep, .data, .data, .data, .data, .data, .sentinel, .sentinel, .pinned, .pinned], laidTests := true, laidLooks := .later }
def FnMidCardSaid : Prop := Claim7.holds Tryz.pinned (.plain (OpenSpec.ofChange fnMidSpec)) fnMidCard

/-- THE SECOND FORM's CARD OF 'laws.FnProduct'. -/
def fnProductUptoCard : Claim7 := { stood := { row := fnProductUptoRow, standIns := [], harness := (true, "8804fa332ba94db976f46c74cf0b1ce9c022a92e907c0b7eb4a9e77cf9225829"), looks := true }, kinds := [], alts := [], laidByText := true, laidKinds := [.data, .data, .widerDeep, .widerDeep, .data, .data, .data, .data, .data, .sentinel, .sentinel, .pinned, .pinned], laidTests := true, laidLooks := .later }
def FnProductUptoCardSaid : Prop := Claim7.holds Tryz.pinned (.plain (OpenSpec.upto fnProductSpec)) fnProductUptoCard

/-- THE SECOND FORM's CARD OF 'laws.FnIndex'. -/
def fnIndexUptoCard : Claim7 := { stood := { row := fnIndexUptoRow, standIns := [], harness := (true, "8804fa332ba94db976f46c74cf0b1ce9c022a92e907c0b7eb4a9e77cf9225829"), looks := true }, kinds := [], alts := [], laidByText := true, laidKinds := [.data, .data, .widerDeep, .widerDeep, .data, .data, .data, .data, .data, .sentinel, .sentinel, .pinned, .pinned], laidTests := true, laidLooks := .later }
def FnIndexUptoCardSaid : Prop := Claim7.holds Tryz.pinned (.plain (OpenSpec.upto fnIndexSpec)) fnIndexUptoCard

/-- THE SECOND FORM's CARD OF 'laws.FnSubstitute'. -/
def fnSubstituteUptoCard : Claim7 := { stood := { row := fnSubstituteUptoRow, standIns := [], harness := (true, "8804fa332ba94db976f46c74cf0b1ce9c022a92e907c0b7eb4a9e77cf9225829"), looks := true }, kinds := [], alts := [], laidByText := true, laidKinds := [.data, .data, .widerDeep, .widerDeep, .data, .data, .data, .data, .data, .sentinel, .sentinel, .pinned, .pinned], laidTests := true, laidLooks := .later }
def FnSubstituteUptoCardSaid : Prop := Claim7.holds Tryz.pinned (.plain (OpenSpec.upto fnSubstituteSpec)) fnSubstituteUptoCard

/-- THE SECOND FORM's CARD OF 'laws.FnLeft'. -/
def fnLeftUptoCard : Claim7 := { stood := { row := fnLeftUptoRow, standIns := [], harness := (true, "8804fa332ba94db976f46c74cf0b1ce9c022a92e907c0b7eb4a9e77cf9225829"), looks := true }, kinds := [], alts := [], laidByText := true, laidKinds := [.data, .data, .widerDeep, .widerDeep, .data, .data, .data, .data, .data, .sentinel, .sentinel, .pinned, .pinned], laidTests := true, laidLooks := .later }
def FnLeftUptoCardSaid : Prop := Claim7.holds Tryz.pinned (.plain (OpenSpec.upto fnLeftSpec)) fnLeftUptoCard

/-- THE SECOND FORM's CARD OF 'laws.FnEnds'. -/
def fnEndsUptoCard : Claim7 := { stood := { row := fnEndsUptoRow, standIns := [], harness := (true, "8804fa332ba94db976f46c74cf0b1ce9c022a92e907c0b7eb4a9e77cf9225829"), looks := true }, kinds := [], alts := [], laidByText := true, laidKinds := [.data, .data, .widerDeep, .widerDeep, .data, .data, .data, .data, .data, .sentinel, .sentinel, .pinned, .pinned], laidTests := true, laidLooks := .later }
def FnEndsUptoCardSaid : Prop := Claim7.holds Tryz.pinned (.plain (OpenSpec.upto fnEndsSpec)) fnEndsUptoCard

/-- THE SECOND FORM's CARD OF 'laws.FnMid'. -/
def fnMidUptoCard : Claim7 := { stood := { row := fnMidUptoRow, standIns := [], harness := (true, "8804fa332ba94db976f46c74cf0b1ce9c022a92e907c0b7eb4a9e77cf9225829"), looks := true }, kinds := [], alts := [], laidByText := true, laidKinds := [.data, .data, .widerDeep, .widerDeep, .data, .data, .data, .data, .data, .sentinel, .sentinel, .pinned, .pinned], laidTests := true, laidLooks := .later }
def FnMidUptoCardSaid : Prop := Claim7.holds Tryz.pinned (.plain (OpenSpec.upto fnMidSpec)) fnMidUptoCard
end Rows
end Go.Proofs.YtcljbgnbdmbkkaaGreatDoor
