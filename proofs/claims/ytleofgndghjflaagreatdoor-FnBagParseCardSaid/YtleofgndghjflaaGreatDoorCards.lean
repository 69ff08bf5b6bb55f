/-
  DERIVED. GIVEN WITH THE SEED: THE CARDS: each row of YtleofgndghjflaaGreatDoorRows.lean that lists a variable, with what it lists TIED to the program's text (the seventh form; the later family's looks); each row that meets fmt, with fmt's text TOLD by the authors' own Lean function (tested against real Go, not proved from fmt's source: count such statements apart). THE CARD IS WHAT COUNTS. Prove the row's statement (the work); the ties are given (YtleofgndghjflaaGreatDoorTie.lean); close each card by the builder's one call (the guide's Derived/Test/ToyasCard.lean, 'card_holds'). Laid BY PROGRAM, IN A SANDBOX (cutbox-door.mjs). By AI agents, Wed Nov 11 2026. No macro, syntax, notation, axiom, sorry.
-/
import Derived.Test.YtleofgndghjflaaGreatDoorRows
import GoSem.ClaimSeven
namespace Go.Proofs.YtleofgndghjflaaGreatDoor
namespace Rows

/-- THE TIED CARD OF 'laws.FnBagProperty'. -/
def fnBagPropertyCard : Claim7 := { stood := { row := fnBagPropertyRow, standIns := [], harness := (true, "64a20876c7826b4db4345840b937295ff55031e95354f8027854285795028124"), looks := false }, kinds := [], alts := [], laidByText := true, laidKinds := [.data, .listed, .data, .sentinel, .sentinel, .sentinel, .sentinel, .sentinel, .sentinel, .data, .data, .pinned], laidTests := true, laidLooks := .later }
def FnBagPropertyCardSaid : Prop := Claim7.holds Tryz.pinned (.plain (OpenSpec.ofChange fnBagPropertySpec)) fnBagPropertyCard

/-- THE TIED CARD OF 'laws.FnBagMember'. -/
def fnBagMemberCard : Claim7 := { stood := { row := fnBagMemberRow, standIns := [], harness := (true, "64a20876c7826b4db4345840b937295ff55031e95354f8027854285795028124"), looks := false }, kinds := [], alts := [], laidByText := true, laidKinds := [.data, .listed, .data, .sentinel, .sentinel, .sentinel, .sentinel, .sentinel, .sentinel, .data, .data, .pinned], laidTests := true, laidLooks := .later }
def FnBagMemberCardSaid : Prop := Claim7.holds Tryz.pinned (.plain (OpenSpec.ofChange fnBagMemberSpec)) fnBagMemberCard

/-- THE TIED CARD OF 'laws.FnBagLong'. -/
def fnBagLongCard : Claim7 := { stood := { row := fnBagLongRow, standIns := [], harness := (true, "64a20876c7826b4db4345840b937295ff55031e95354f8027854285795028124"), looks := false }, kinds := [], alts := [], laidByText := true, laidKinds := [.data, .listed, .data, .sentinel, .sentinel, .sentinel, .sentinel, .sentinel, .sentinel, .data, .data, .pinned], laidTests := true, laidLooks := .later }
def FnBagLongCardSaid : Prop := Claim7.holds Tryz.pinned (.plain (OpenSpec.ofChange fnBagLongSpec)) fnBagLongCard

/-- THE TIED CARD OF 'laws.FnBagApart'. -/
def fnBagApartCard : Claim7 := { stood := { row := fnBagApartRow, standIns := [], harness := (true, "64a20876c7826b4db4345840b937295ff55031e95354f8027854285795028124"), looks := false }, kinds := [], alts := [], laidByText := true, laidKinds := [.data, .listed, .data, .sentinel, .sentinel, .sentinel, .sentinel, .sentinel, .sentinel, .data, .data, .pinned], laidTests := true, laidLooks := .later }
def FnBagApartCardSaid : Prop := Claim7.holds Tryz.pinned (.plain (OpenSpec.ofChange fnBagApartSpec)) fnBagApartCard

/-- THE TIED CARD OF 'laws.FnBagSteps'. -/
def fnBagStepsCard : Claim7 := { stood := { row := fnBagStepsRow, standIns := [], harness := (true, "64a20876c7826b4db4345840b937295ff55031e95354f8027854285795028124"), looks := false }, kinds := [], alts := [], laidByText := true, laidKinds := [.data, .listed, .data, .sentinel, .sentinel, .sentinel, .sentinel, .sentinel, .sentinel, .data, .data, .pinned], laidTests := true, laidLooks := .later }
def FnBagStepsCardSaid : Prop := Claim7.holds Tryz.pinned (.plain (OpenSpec.ofChange fnBagStepsSpec)) fnBagStepsCard

/-- THE TIED CARD OF 'laws.FnBagParse'. -/
def fnBagParseCard : Claim7 := { stood := { row := fnBagParseRow, standIns := [], harness := (true, "64a20876c7826b4db4345840b937295ff55031e95354f8027854285795028124"), looks := false }, kinds := [], alts := [], laidByText := true, laidKinds := [.data, .listed, .data, .sentinel, .sentinel, .sentinel, .sentinel, .sentinel, .sentinel, .data, .data, .pinned], laidTests := true, laidLooks := .later }
def FnBagParseCardSaid : Prop := Claim7.holds Tryz.pinned (.plain (OpenSpec.ofChange fnBagParseSpec)) fnBagParseCard

/-- THE SECOND FORM's CARD OF 'laws.FnBagProperty'. -/
def fnBagPropertyUptoCard : Claim7 := { stood := { row := fnBagPropertyUptoRow, standIns := [], harness := (true, "64a20876c7826b4db4345840b937295ff55031e95354f8027854285795028124"), looks := false }, kinds := [], alts := [], laidByText := true, laidKinds := [.data, .listed, .data, .sentinel, .sentinel, .sentinel, .sentinel, .sentinel, .sentinel, .data, .data, .pinned], laidTests := true, laidLooks := .later }
def FnBagPropertyUptoCardSaid : Prop := Claim7.holds Tryz.pinned (.plain (OpenSpec.upto fnBagPropertySpec)) fnBagPropertyUptoCard

/-- THE SECOND FORM's CARD OF 'laws.FnBagMember'. -/
def fnBagMemberUptoCard : Claim7 := { stood := { row := fnBagMemberUptoRow, standIns := [], harness := (true, "64a20876c7826b4db4345840b937295ff55031e95354f8027854285795028124"), looks := false }, kinds := [], alts := [], laidByText := true, laidKinds := [.data, .listed, .data, .sentinel, .sentinel, .sentinel, .sentinel, .sentinel, .sentinel, .data, .data, .pinned], laidTests := true, laidLooks := .later }
def FnBagMemberUptoCardSaid : Prop := Claim7.holds Tryz.pinned (.plain (OpenSpec.upto fnBagMemberSpec)) fnBagMemberUptoCard

/-- THE SECOND FORM's CARD OF 'laws.FnBagLong'. -/
def fnBagLongUptoCard : Claim7 := { stood := { row := fnBagLongUptoRow, standIns := [], harness := (true, "64a20876c7826b4db4345840b937295ff55031e95354f8027854285795028124"), looks := false }, kinds := [], alts := [], laidByText := true, laidKinds := [.data, .listed, .data, .sentinel, .sentinel, .sentinel, .sentinel, .sentinel, .sentinel, .data, .data, .pinned], laidTests := true, laidLooks := .later }
def FnBagLongUptoCardSaid : Prop := Claim7.holds Tryz.pinned (.plain (OpenSpec.upto fnBagLongSpec)) fnBagLongUptoCard

/-- THE SECOND FORM's CARD OF 'laws.FnBagApart'. -/
def fnBagApartUptoCard : Claim7 := { stood := { row := fnBagApartUptoRow, standIns := [], harness := (true, "64a20876c7826b4db4345840b937295ff55031e95354f8027854285795028124"), looks := false }, kinds := [], alts := [], laidByText := true, laidKinds := [.data, .listed, .data, .sentinel, .sentinel, .sentinel, .sentinel, .sentinel, .sentinel, .data, .data, .pinned], laidTests := true, laidLooks := .later }
def FnBagApartUptoCardSaid : Prop := Claim7.holds Tryz.pinned (.plain (OpenSpec.upto fnBagApartSpec)) fnBagApartUptoCard

/-- THE SECOND FORM's CARD OF 'laws.FnBagSteps'. -/
def fnBagStepsUptoCard : Claim7 := { stood := { row := fnBagStepsUptoRow, standIns := [], harness := (true, "64a20876c7826b4db4345840b937295ff55031e95354f8027854285795028124"), looks := false }, kinds := [], alts := [], laidByText := true, laidKinds := [.data, .listed, .data, .sentinel, .sentinel, .sentinel, .sentinel, .sentinel, .sentinel, .data, .data, .pinned], laidTests := true, laidLooks := .later }
def FnBagStepsUptoCardSaid : Prop := Claim7.holds Tryz.pinned (.plain (OpenSpec.upto fnBagStepsSpec)) fnBagStepsUptoCard

/-- THE SECOND FORM's CARD OF 'laws.FnBagParse'. -/
def fnBagParseUptoCard : Claim7 := { stood := { row := fnBagParseUptoRow, standIns := [], harness := (true, "64a20876c7826b4db4345840b937295ff55031e95354f8027854285795028124"), looks := false }, kinds := [], alts := [], laidByText := true, laidKinds := [.data, .listed, .data, .sentinel, .sentinel, .sentinel, .sentinel, .sentinel, .sentinel, .data, .data, .pinned], laidTests := true, laidLooks := .later }
def FnBagParseUptoCardSaid : Prop := Claim7.holds Tryz.pinned (.plain (OpenSpec.upto fnBagParseSpec)) fnBagParseUptoCard
end Rows
end Go.Proofs.YtleofgndghjflaaGreatDoor
