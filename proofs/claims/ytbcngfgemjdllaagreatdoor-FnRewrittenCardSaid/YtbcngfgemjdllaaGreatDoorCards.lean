/-
  DERIVED. GIVEN WITH THE SEED: THE CARDS: each row of YtbcngfgemjdllaaGreatDoorRows.lean that lists a variable, with what it lists TIED to the program's text (the seventh form; the later family's looks); each row that meets fmt, with fmt's text TOLD by the authors' own Lean function (tested against real Go, not proved from fmt's source: count such statements apart). THE CARD IS WHAT COUNTS. Prove the row's statement (the work); the ties are given (YtbcngfgemjdllaaGreatDoorTie.lean); close each card by the builder's one call (the guide's Derived/Test/ToyasCard.lean, 'card_holds'). Laid BY PROGRAM, IN A SANDBOX (cutbox-door.mjs). By AI agents, Wed Nov 11 2026. No macro, syntax, notation, axiom, sorry.
-/
import Derived.Test.YtbcngfgemjdllaaGreatDoorRows
import GoSem.ClaimSeven
namespace Go.Proofs.YtbcngfgemjdllaaGreatDoor
namespace Rows

/-- THE TIED CARD OF 'laws.FnBehind'. -/
def fnBehindCard : Claim7 := { stood := { row := fnBehindRow, standIns := [], harness := (true, "6815c46a5691d3144b13b8472ebf1555fb2c30ee2ed47d3e86943d9c1a479954"), looks := true }, kinds := [], alts := [], laidByText := true, laidKinds := [.data, .data, .data], laidTests := true, laidLooks := .later }
def FnBehindCardSaid : Prop := Claim7.holds Tryz.pinned (.plain (OpenSpec.ofChange fnBehindSpec)) fnBehindCard

/-- THE TIED CARD OF 'laws.FnMatchAll'. -/
def fnMatchAllCard : Claim7 := { stood := { row := fnMatchAllRow, standIns := [], harness := (true, "6815c46a5691d3144b13b8472ebf1555fb2c30ee2ed47d3e86943d9c1a479954"), looks := true }, kinds := [], alts := [], laidByText := true, laidKinds := [.data, .data, .data], laidTests := true, laidLooks := .later }
def FnMatchAllCardSaid : Prop := Claim7.holds Tryz.pinned (.plain (OpenSpec.ofChange fnMatchAllSpec)) fnMatchAllCard

/-- THE TIED CARD OF 'laws.FnPlaces'. -/
def fnPlacesCard : Claim7 := { stood := { row := fnPlacesRow, standIns := [], harness := (true, "6815c46a5691d3144b13b8472ebf1555fb2c30ee2ed47d3e86943d9c1a479954"), looks := true }, kinds := [], alts := [], laidByText := true, laidKinds := [.data, .data, .data], laidTests := true, laidLooks := .later }
def FnPlacesCardSaid : Prop := Claim7.holds Tryz.pinned (.plain (OpenSpec.ofChange fnPlacesSpec)) fnPlacesCard

/-- THE TIED CARD OF 'laws.FnRest'. -/
def fnRestCard : Claim7 := { stood := { row := fnRestRow, standIns := [], harness := (true, "6815c46a5691d3144b13b8472ebf1555fb2c30ee2ed47d3e86943d9c1a479954"), looks := true }, kinds := [], alts := [], laidByText := true, laidKinds := [.data, .data, .data], laidTests := true, laidLooks := .later }
def FnRestCardSaid : Prop := Claim7.holds Tryz.pinned (.plain (OpenSpec.ofChange fnRestSpec)) fnRestCard

/-- THE TIED CARD OF 'laws.FnRewritten'. -/
def fnRewrittenCard : Claim7 := { stood := { row := fnRewrittenRow, standIns := [], harness := (true, "6815c46a5691d3144b13b8472ebf1555fb2c30ee2ed47d3e86943d9c1a479954"), looks := true }, kinds := [], alts := [], laidByText := true, laidKinds := [.data, .data, .data], laidTests := true, laidLooks := .later }
def FnRewrittenCardSaid : Prop := Claim7.holds Tryz.pinned (.plain (OpenSpec.ofChange fnRewrittenSpec)) fnRewrittenCard

/-- THE TIED CARD OF 'laws.FnWhole'. -/
def fnWholeCard : Claim7 := { stood := { row := fnWholeRow, standIns := [], harness := (true, "6815c46a5691d3144b13b8472ebf1555fb2c30ee2ed47d3e86943d9c1a479954"), looks := true }, kinds := [], alts := [], laidByText := true, laidKinds := [.data, .data, .data], laidTests := true, laidLooks := .later }
def FnWholeCardSaid : Prop := Claim7.holds Tryz.pinned (.plain (OpenSpec.ofChange fnWholeSpec)) fnWholeCard

/-- THE TIED CARD OF 'laws.FnMatch'. -/
def fnMatchCard : Claim7 := { stood := { row := fnMatchRow, standIns := [], harness := (true, "6815c46a5691d3144b13b8472ebf1555fb2c30ee2ed47d3e86943d9c1a479954"), looks := true }, kinds := [], alts := [], laidByText := true, laidKinds := [.data, .data, .data], laidTests := true, laidLooks := .later }
def FnMatchCardSaid : Prop := Claim7.holds Tryz.pinned (.plain (OpenSpec.ofChange fnMatchSpec)) fnMatchCard

/-- THE TIED CARD OF 'laws.FnOneByOne'. -/
def fnOneByOneCard : Claim7 := { stood := { row := fnOneByOneRow, standIns := [], harness := (true, "6815c46a5691d3144b13b8472ebf1555fb2c30ee2ed47d3e86943d9c1a479954"), looks := true }, kinds := [], alts := [], laidByText := true, laidKinds := [.data, .data, .data], laidTests := true, laidLooks := .later }
def FnOneByOneCardSaid : Prop := Claim7.holds Tryz.pinned (.plain (OpenSpec.ofChange fnOneByOneSpec)) fnOneByOneCard

/-- THE SECOND FORM's CARD OF 'laws.FnBehind'. -/
def fnBehindUptoCard : Claim7 := { stood := { row := fnBehindUptoRow, standIns := [], harness := (true, "6815c46a5691d3144b13b8472ebf1555fb2c30ee2ed47d3e86943d9c1a479954"), looks := true }, kinds := [], alts := [], laidByText := true, laidKinds := [.data, .data, .data], laidTests := true, laidLooks := .later }
def FnBehindUptoCardSaid : Prop := Claim7.holds Tryz.pinned (.plain (OpenSpec.upto fnBehindSpec)) fnBehindUptoCard

/-- THE SECOND FORM's CARD OF 'laws.FnMatchAll'. -/
def fnMatchAllUptoCard : Claim7 := { stood := { row := fnMatchAllUptoRow, standIns := [], harness := (true, "6815c46a5691d3144b13b8472ebf1555fb2c30ee2ed47d3e86943d9c1a479954"), looks := true }, kinds := [], alts := [], laidByText := true, laidKinds := [.data, .data, .data], laidTests := true, laidLooks := .later }
def FnMatchAllUptoCardSaid : Prop := Claim7.holds Tryz.pinned (.plain (OpenSpec.upto fnMatchAllSpec)) fnMatchAllUptoCard

/-- THE SECOND FORM's CARD OF 'laws.FnPlaces'. -/
def fnPlacesUptoCard : Claim7 := { stood := { row := fnPlacesUptoRow, standIns := [], harness := (true, "6815c46a5691d3144b13b8472ebf1555fb2c30ee2ed47d3e86943d9c1a479954"), looks := true }, kinds := [], alts := [], laidByText := true, laidKinds := [.data, .data, .data], laidTests := true, laidLooks := .later }
def FnPlacesUptoCardSaid : Prop := Claim7.holds Tryz.pinned (.plain (OpenSpec.upto fnPlacesSpec)) fnPlacesUptoCard

/-- THE SECOND FORM's CARD OF 'laws.FnRest'. -/
def fnRestUptoCard : Claim7 := { stood := { row := fnRestUptoRow, standIns := [], harness := (true, "6815c46a5691d3144b13b8472ebf1555fb2c30ee2ed47d3e86943d9c1a479954"), looks := true }, kinds := [], alts := [], laidByText := true, laidKinds := [.data, .data, .data], laidTests := true, laidLooks := .later }
def FnRestUptoCardSaid : Prop := Claim7.holds Tryz.pinned (.plain (OpenSpec.upto fnRestSpec)) fnRestUptoCard

/-- THE SECOND FORM's CARD OF 'laws.FnRewritten'. -/
def fnRewrittenUptoCard : Claim7 := { stood := { row := fnRewrittenUptoRow, standIns := [], harness := (true, "6815c46a5691d3144b13b8472ebf1555fb2c30ee2ed47d3e86943d9c1a479954"), looks := true }, kinds := [], alts := [], laidByText := true, laidKinds := [.data, .data, .data], laidTests := true, laidLooks := .later }
def FnRewrittenUptoCardSaid : Prop := Claim7.holds Tryz.pinned (.plain (OpenSpec.upto fnRewrittenSpec)) fnRewrittenUptoCard

/-- THE SECOND FORM's CARD OF 'laws.FnWhole'. -/
def fnWholeUptoCard : Claim7 := { stood := { row := fnWholeUptoRow, standIns := [], harness := (true, "6815c46a5691d3144b13b8472ebf1555fb2c30ee2ed47d3e86943d9c1a479954"), looks := true }, kinds := [], alts := [], laidByText := true, laidKinds := [.data, .data, .data], laidTests := true, laidLooks := .later }
def FnWholeUptoCardSaid : Prop := Claim7.holds Tryz.pinned (.plain (OpenSpec.upto fnWholeSpec)) fnWholeUptoCard

/-- THE SECOND FORM's CARD OF 'laws.FnMatch'. -/
def fnMatchUptoCard : Claim7 := { stood := { row := fnMatchUptoRow, standIns := [], harness := (true, "6815c46a5691d3144b13b8472ebf1555fb2c30ee2ed47d3e86943d9c1a479954"), looks := true }, kinds := [], alts := [], laidByText := true, laidKinds := [.data, .data, .data], laidTests := true, laidLooks := .later }
def FnMatchUptoCardSaid : Prop := Claim7.holds Tryz.pinned (.plain (OpenSpec.upto fnMatchSpec)) fnMatchUptoCard

/-- THE SECOND FORM's CARD OF 'laws.FnOneByOne'. -/
def fnOneByOneUptoCard : Claim7 := { stood := { row := fnOneByOneUptoRow, standIns := [], harness := (true, "6815c46a5691d3144b13b8472ebf1555fb2c30ee2ed47d3e86943d9c1a479954"), looks := true }, kinds := [], alts := [], laidByText := true, laidKinds := [.data, .data, .data], laidTests := true, laidLooks := .later }
def FnOneByOneUptoCardSaid : Prop := Claim7.holds Tryz.pinned (.plain (OpenSpec.upto fnOneByOneSpec)) fnOneByOneUptoCard
end Rows
end Go.Proofs.YtbcngfgemjdllaaGreatDoor
