/-
  DERIVED. GIVEN WITH THE SEED: THE CARDS: each row of YtochgglejmfelaaGreatDoorRows.lean that lists a variable, with what it lists TIED to the program's text (the seventh form; the later family's looks); each row that meets fmt, with fmt's text TOLD by the authors' own Lean function (tested against real Go, not proved from fmt's source: count such statements apart). THE CARD IS WHAT COUNTS. Prove the row's statement (the work); the ties are given (YtochgglejmfelaaGreatDoorTie.lean); close each card by the builder's one call (the guide's Derived/Test/ToyasCard.lean, 'card_holds'). Laid BY PROGRAM, IN A SANDBOX (cutbox-door.mjs). By AI agents, Wed Nov 11 2026. No macro, syntax, notation, axiom, sorry.
-/
import Derived.Test.YtochgglejmfelaaGreatDoorRows
import GoSem.ClaimSeven
namespace Go.Proofs.YtochgglejmfelaaGreatDoor
namespace Rows

/-- THE TIED CARD OF 'laws.FnIxStop'. -/
def fnIxStopCard : Claim7 := { stood := { row := fnIxStopRow, standIns := [], harness := (true, "dda2a0f972efc807a9e1461376b68ce836ff84512577343b8d54128bba5f8956"), looks := true }, kinds := [], alts := [], laidByText := true, laidKinds := [.sentinel, .sentinel, .sentinel, .sentinel, .sentinel, .sentinel, .sentinel, .sentinel, .data, .sentinel], laidTests := true, laidLooks := .later }
def FnIxStopCardSaid : Prop := Claim7.holds Tryz.pinned (.plain (OpenSpec.ofChange fnIxStopSpec)) fnIxStopCard

/-- THE TIED CARD OF 'laws.FnIxCut'. -/
def fnIxCutCard : Claim7 := { stood := { row := fnIxCutRow, standIns := [], harness := (true, "dda2a0f972efc807a9e1461376b68ce836ff84512577343b8d54128bba5f8956"), looks := true }, kinds := [], alts := [], laidByText := true, laidKinds := [.sentinel, .sentinel, .sentinel, .sentinel, .sentinel, .sentinel, .sentinel, .sentinel, .data, .sentinel], laidTests := true, laidLooks := .later }
def FnIxCutCardSaid : Prop := Claim7.holds Tryz.pinned (.plain (OpenSpec.ofChange fnIxCutSpec)) fnIxCutCard

/-- THE TIED CARD OF 'laws.FnIxRead'. -/
def fnIxReadCard : Claim7 := { stood := { row := fnIxReadRow, standIns := [], harness := (true, "dda2a0f972efc807a9e1461376b68ce836ff84512577343b8d54128bba5f8956"), looks := true }, kinds := [], alts := [], laidByText := true, laidKinds := [.sentinel, .sentinel, .sentinel, .sentinel, .sentinel, .sentinel, .sentinel, .sentinel, .data, .sentinel], laidTests := true, laidLooks := .later }
def FnIxReadCardSaid : Prop := Claim7.holds Tryz.pinned (.plain (OpenSpec.ofChange fnIxReadSpec)) fnIxReadCard

/-- THE TIED CARD OF 'laws.FnIxMakeHeads'. -/
def fnIxMakeHeadsCard : Claim7 := { stood := { row := fnIxMakeHeadsRow, standIns := [], harness := (true, "dda2a0f972efc807a9e1461376b68ce836ff84512577343b8d54128bba5f8956"), looks := true }, kinds := [], alts := [], laidByText := true, laidKinds := [.sentinel, .sentinel, .sentinel, .sentinel, .sentinel, .sentinel, .sentinel, .sentinel, .sentinel, .sentinel, .sentinel, .sentinel, .sentinel, .sentinel, .sentinel, .data, .sentinel, .sentinel, .sentinel], laidTests := true, laidLooks := .later }
def FnIxMakeHeadsCardSaid : Prop := Claim7.holds Tryz.pinned (.plain (OpenSpec.ofChange fnIxMakeHeadsSpec)) fnIxMakeHeadsCard

/-- THE TIED CARD OF 'laws.FnIxMake'. -/
def fnIxMakeCard : Claim7 := { stood := { row := fnIxMakeRow, standIns := [], harness := (true, "dda2a0f972efc807a9e1461376b68ce836ff84512577343b8d54128bba5f8956"), looks := true }, kinds := [], alts := [], laidByText := true, laidKinds := [.sentinel, .sentinel, .sentinel, .sentinel, .sentinel, .sentinel, .sentinel, .sentinel, .sentinel, .sentinel, .sentinel, .sentinel, .sentinel, .sentinel, .sentinel, .data, .sentinel, .sentinel, .sentinel], laidTests := true, laidLooks := .later }
def FnIxMakeCardSaid : Prop := Claim7.holds Tryz.pinned (.plain (OpenSpec.ofChange fnIxMakeSpec)) fnIxMakeCard

/-- THE TIED CARD OF 'laws.FnWrOptions'. -/
def fnWrOptionsCard : Claim7 := { stood := { row := fnWrOptionsRow, standIns := [], harness := (true, "dda2a0f972efc807a9e1461376b68ce836ff84512577343b8d54128bba5f8956"), looks := true }, kinds := [], alts := [], laidByText := true, laidKinds := [.sentinel, .sentinel, .sentinel, .sentinel, .sentinel, .sentinel, .sentinel, .sentinel, .sentinel, .sentinel, .sentinel, .sentinel, .sentinel, .sentinel, .sentinel, .sentinel, .data, .sentinel, .sentinel, .sentinel], laidTests := true, laidLooks := .later }
def FnWrOptionsCardSaid : Prop := Claim7.holds Tryz.pinned (.plain (OpenSpec.ofChange fnWrOptionsSpec)) fnWrOptionsCard

/-- THE SECOND FORM's CARD OF 'laws.FnIxStop'. -/
def fnIxStopUptoCard : Claim7 := { stood := { row := fnIxStopUptoRow, standIns := [], harness := (true, "dda2a0f972efc807a9e1461376b68ce836ff84512577343b8d54128bba5f8956"), looks := true }, kinds := [], alts := [], laidByText := true, laidKinds := [.sentinel, .sentinel, .sentinel, .sentinel, .sentinel, .sentinel, .sentinel, .sentinel, .data, .sentinel], laidTests := true, laidLooks := .later }
def FnIxStopUptoCardSaid : Prop := Claim7.holds Tryz.pinned (.plain (OpenSpec.upto fnIxStopSpec)) fnIxStopUptoCard

/-- THE SECOND FORM's CARD OF 'laws.FnIxCut'. -/
def fnIxCutUptoCard : Claim7 := { stood := { row := fnIxCutUptoRow, standIns := [], harness := (true, "dda2a0f972efc807a9e1461376b68ce836ff84512577343b8d54128bba5f8956"), looks := true }, kinds := [], alts := [], laidByText := true, laidKinds := [.sentinel, .sentinel, .sentinel, .sentinel, .sentinel, .sentinel, .sentinel, .sentinel, .data, .sentinel], laidTests := true, laidLooks := .later }
def FnIxCutUptoCardSaid : Prop := Claim7.holds Tryz.pinned (.plain (OpenSpec.upto fnIxCutSpec)) fnIxCutUptoCard

/-- THE SECOND FORM's CARD OF 'laws.FnIxRead'. -/
def fnIxReadUptoCard : Claim7 := { stood := { row := fnIxReadUptoRow, standIns := [], harness := (true, "dda2a0f972efc807a9e1461376b68ce836ff84512577343b8d54128bba5f8956"), looks := true }, kinds := [], alts := [], laidByText := true, laidKinds := [.sentinel, .sentinel, .sentinel, .sentinel, .sentinel, .sentinel, .sentinel, .sentinel, .data, .sentinel], laidTests := true, laidLooks := .later }
def FnIxReadUptoCardSaid : Prop := Claim7.holds Tryz.pinned (.plain (OpenSpec.upto fnIxReadSpec)) fnIxReadUptoCard

/-- THE SECOND FORM's CARD OF 'laws.FnIxMakeHeads'. -/
def fnIxMakeHeadsUptoCard : Claim7 := { stood := { row := fnIxMakeHeadsUptoRow, standIns := [], harness := (true, "dda2a0f972efc807a9e1461376b68ce836ff84512577343b8d54128bba5f8956"), looks := true }, kinds := [], alts := [], laidByText := true, laidKinds := [.sentinel, .sentinel, .sentinel, .sentinel, .sentinel, .sentinel, .sentinel, .sentinel, .sentinel, .sentinel, .sentinel, .sentinel, .sentinel, .sentinel, .sentinel, .data, .sentinel, .sentinel, .sentinel], laidTests := true, laidLooks := .later }
def FnIxMakeHeadsUptoCardSaid : Prop := Claim7.holds Tryz.pinned (.plain (OpenSpec.upto fnIxMakeHeadsSpec)) fnIxMakeHeadsUptoCard

/-- THE SECOND FORM's CARD OF 'laws.FnIxMake'. -/
def fnIxMakeUptoCard : Claim7 := { stood := { row := fnIxMakeUptoRow, standIns := [], harness := (true, "dda2a0f972efc807a9e1461376b68ce836ff84512577343b8d54128bba5f8956"), looks := true }, kinds := [], alts := [], laidByText := true, laidKinds := [.sentinel, .sentinel, .sentinel, .sentinel, .sentinel, .sentinel, .sentinel, .sentinel, .sentinel, .sentinel, .sentinel, .sentinel, .sentinel, .sentinel, .sentinel, .data, .sentinel, .sentinel, .sentinel], laidTests := true, laidLooks := .later }
def FnIxMakeUptoCardSaid : Prop := Claim7.holds Tryz.pinned (.plain (OpenSpec.upto fnIxMakeSpec)) fnIxMakeUptoCard

/-- THE SECOND FORM's CARD OF 'laws.FnWrOptions'. -/
def fnWrOptionsUptoCard : Claim7 := { stood := { row := fnWrOptionsUptoRow, standIns := [], harness := (true, "dda2a0f972efc807a9e1461376b68ce836ff84512577343b8d54128bba5f8956"), looks := true }, kinds := [], alts := [], laidByText := true, laidKinds := [.sentinel, .sentinel, .sentinel, .sentinel, .sentinel, .sentinel, .sentinel, .sentinel, .sentinel, .sentinel, .sentinel, .sentinel, .sentinel, .sentinel, .sentinel, .sentinel, .data, .sentinel, .sentinel, .sentinel], laidTests := true, laidLooks := .later }
def FnWrOptionsUptoCardSaid : Prop := Claim7.holds Tryz.pinned (.plain (OpenSpec.upto fnWrOptionsSpec)) fnWrOptionsUptoCard
end Rows
end Go.Proofs.YtochgglejmfelaaGreatDoor
