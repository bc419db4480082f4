/-
  DERIVED. GIVEN WITH THE SEED: THE CARDS: each row of YtliopnbkpdfngaaDoorRows.lean that lists a variable, with what it lists TIED to the program's text (the seventh form; the later family's looks); each row that meets fmt, with fmt's text TOLD by the authors' own Lean function (tested against real Go, not proved from fmt's source: count such statements apart). THE CARD IS WHAT COUNTS. Prove the row's statement (the work); the ties are given (YtliopnbkpdfngaaDoorTie.lean); close each card by the builder's one call (the guide's Derived/Test/ToyasCard.lean, 'card_holds'). Laid BY PROGRAM, IN A SANDBOX (cutbox-door.mjs). By AI agents, Wed Nov 11 2026. No macro, syntax, notation, axiom, sorry.
-/
import Derived.Test.YtliopnbkpdfngaaDoorRows
import GoSem.ClaimSeven
namespace Go.Proofs.YtliopnbkpdfngaaDoor
namespace Rows

/-- THE TIED CARD OF 'laws.FnConvertFractions'. -/
def fnConvertFractionsCard : Claim7 := { stood := { row := fnConvertFractionsRow, standIns := [], harness := (true, "53f6206b63c7cf3dbeb45aeef9ba2234e5eab8c7318ac1bac1c648e32e66cccc"), looks := true }, kinds := [], alts := [], laidByText := true, laidKinds := [.sentinel], laidTests := true, laidLooks := .later }
def FnConvertFractionsCardSaid : Prop := Claim7.holds Tryd.pinned (.plain (OpenSpec.ofChange fnConvertFractionsSpec)) fnConvertFractionsCard

/-- THE TIED CARD OF 'laws.FnConvertRune'. -/
def fnConvertRuneCard : Claim7 := { stood := { row := fnConvertRuneRow, standIns := [], harness := (true, "53f6206b63c7cf3dbeb45aeef9ba2234e5eab8c7318ac1bac1c648e32e66cccc"), looks := true }, kinds := [], alts := [], laidByText := true, laidKinds := [.sentinel], laidTests := true, laidLooks := .later }
def FnConvertRuneCardSaid : Prop := Claim7.holds Tryd.pinned (.plain (OpenSpec.ofChange fnConvertRuneSpec)) fnConvertRuneCard

/-- THE TIED CARD OF 'laws.FnConvertThere'. -/
def fnConvertThereCard : Claim7 := { stood := { row := fnConvertThereRow, standIns := [], harness := (true, "53f6206b63c7cf3dbeb45aeef9ba2234e5eab8c7318ac1bac1c648e32e66cccc"), looks := true }, kinds := [], alts := [], laidByText := true, laidKinds := [.sentinel], laidTests := true, laidLooks := .later }
def FnConvertThereCardSaid : Prop := Claim7.holds Tryd.pinned (.plain (OpenSpec.ofChange fnConvertThereSpec)) fnConvertThereCard

/-- THE SECOND FORM's CARD OF 'laws.FnConvertFractions'. -/
def fnConvertFractionsUptoCard : Claim7 := { stood := { row := fnConvertFractionsUptoRow, standIns := [], harness := (true, "53f6206b63c7cf3dbeb45aeef9ba2234e5eab8c7318ac1bac1c648e32e66cccc"), looks := true }, kinds := [], alts := [], laidByText := true, laidKinds := [.sentinel], laidTests := true, laidLooks := .later }
def FnConvertFractionsUptoCardSaid : Prop := Claim7.holds Tryd.pinned (.plain (OpenSpec.upto fnConvertFractionsSpec)) fnConvertFractionsUptoCard

/-- THE SECOND FORM's CARD OF 'laws.FnConvertRune'. -/
def fnConvertRuneUptoCard : Claim7 := { stood := { row := fnConvertRuneUptoRow, standIns := [], harness := (true, "53f6206b63c7cf3dbeb45aeef9ba2234e5eab8c7318ac1bac1c648e32e66cccc"), looks := true }, kinds := [], alts := [], laidByText := true, laidKinds := [.sentinel], laidTests := true, laidLooks := .later }
def FnConvertRuneUptoCardSaid : Prop := Claim7.holds Tryd.pinned (.plain (OpenSpec.upto fnConvertRuneSpec)) fnConvertRuneUptoCard

/-- THE SECOND FORM's CARD OF 'laws.FnConvertThere'. -/
def fnConvertThereUptoCard : Claim7 := { stood := { row := fnConvertThereUptoRow, standIns := [], harness := (true, "53f6206b63c7cf3dbeb45aeef9ba2234e5eab8c7318ac1bac1c648e32e66cccc"), looks := true }, kinds := [], alts := [], laidByText := true, laidKinds := [.sentinel], laidTests := true, laidLooks := .later }
def FnConvertThereUptoCardSaid : Prop := Claim7.holds Tryd.pinned (.plain (OpenSpec.upto fnConvertThereSpec)) fnConvertThereUptoCard
end Rows
end Go.Proofs.YtliopnbkpdfngaaDoor
