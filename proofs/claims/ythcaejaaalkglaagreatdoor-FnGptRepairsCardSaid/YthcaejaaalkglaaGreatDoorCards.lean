/-
  DERIVED. GIVEN WITH THE SEED: THE CARDS: each row of YthcaejaaalkglaaGreatDoorRows.lean that lists a variable, with what it lists TIED to the program's text (the seventh form; the later family's looks); each row that meets fmt, with fmt's text TOLD by the authors' own Lean function (tested against real Go, not proved from fmt's source: count such statements apart). THE CARD IS WHAT COUNTS. Prove the row's statement (the work); the ties are given (YthcaejaaalkglaaGreatDoorTie.lean); close each card by the builder's one call (the guide's Derived/Test/ToyasCard.lean, 'card_holds'). Laid BY PROGRAM, IN A SANDBOX (cutbox-door.mjs). By AI agents, Wed Nov 11 2026. No macro, syntax, notation, axiom, sorry.
-/
import Derived.Test.YthcaejaaalkglaaGreatDoorRows
import GoSem.ClaimSeven
namespace Go.Proofs.YthcaejaaalkglaaGreatDoor
namespace Rows

/-- THE TIED CARD OF 'laws.FnGptRepairs'. -/
def fnGptRepairsCard : Claim7 := { stood := { row := fnGptRepairsRow, standIns := [], harness := (true, "51c347355b049a355e857fdd237ac1632b1607452805e5b23dfef7c8c64416af"), looks := true }, kinds := [], alts := [], laidByText := true, laidKinds := [.data, .pinned], laidTests := true, laidLooks := .later }
def FnGptRepairsCardSaid : Prop := Claim7.holds Tryz.pinned (.plain (OpenSpec.ofChange fnGptRepairsSpec)) fnGptRepairsCard

/-- THE TIED CARD OF 'laws.FnGptBack'. -/
def fnGptBackCard : Claim7 := { stood := { row := fnGptBackRow, standIns := [], harness := (true, "51c347355b049a355e857fdd237ac1632b1607452805e5b23dfef7c8c64416af"), looks := true }, kinds := [], alts := [], laidByText := true, laidKinds := [.data, .pinned], laidTests := true, laidLooks := .later }
def FnGptBackCardSaid : Prop := Claim7.holds Tryz.pinned (.plain (OpenSpec.ofChange fnGptBackSpec)) fnGptBackCard

/-- THE TIED CARD OF 'laws.FnGptCut'. -/
def fnGptCutCard : Claim7 := { stood := { row := fnGptCutRow, standIns := [], harness := (true, "51c347355b049a355e857fdd237ac1632b1607452805e5b23dfef7c8c64416af"), looks := true }, kinds := [], alts := [], laidByText := true, laidKinds := [.data, .pinned], laidTests := true, laidLooks := .later }
def FnGptCutCardSaid : Prop := Claim7.holds Tryz.pinned (.plain (OpenSpec.ofChange fnGptCutSpec)) fnGptCutCard

/-- THE TIED CARD OF 'laws.FnGptOrder'. -/
def fnGptOrderCard : Claim7 := { stood := { row := fnGptOrderRow, standIns := [], harness := (true, "51c347355b049a355e857fdd237ac1632b1607452805e5b23dfef7c8c64416af"), looks := true }, kinds := [], alts := [], laidByText := true, laidKinds := [.data, .pinned], laidTests := true, laidLooks := .later }
def FnGptOrderCardSaid : Prop := Claim7.holds Tryz.pinned (.plain (OpenSpec.ofChange fnGptOrderSpec)) fnGptOrderCard

/-- THE TIED CARD OF 'laws.FnGptWrites'. -/
def fnGptWritesCard : Claim7 := { stood := { row := fnGptWritesRow, standIns := [], harness := (true, "51c347355b049a355e857fdd237ac1632b1607452805e5b23dfef7c8c64416af"), looks := true }, kinds := [], alts := [], laidByText := true, laidKinds := [.data, .pinned], laidTests := true, laidLooks := .later }
def FnGptWritesCardSaid : Prop := Claim7.holds Tryz.pinned (.plain (OpenSpec.ofChange fnGptWritesSpec)) fnGptWritesCard

/-- THE SECOND FORM's CARD OF 'laws.FnGptRepairs'. -/
def fnGptRepairsUptoCard : Claim7 := { stood := { row := fnGptRepairsUptoRow, standIns := [], harness := (true, "51c347355b049a355e857fdd237ac1632b1607452805e5b23dfef7c8c64416af"), looks := true }, kinds := [], alts := [], laidByText := true, laidKinds := [.data, .pinned], laidTests := true, laidLooks := .later }
def FnGptRepairsUptoCardSaid : Prop := Claim7.holds Tryz.pinned (.plain (OpenSpec.upto fnGptRepairsSpec)) fnGptRepairsUptoCard

/-- THE SECOND FORM's CARD OF 'laws.FnGptBack'. -/
def fnGptBackUptoCard : Claim7 := { stood := { row := fnGptBackUptoRow, standIns := [], harness := (true, "51c347355b049a355e857fdd237ac1632b1607452805e5b23dfef7c8c64416af"), looks := true }, kinds := [], alts := [], laidByText := true, laidKinds := [.data, .pinned], laidTests := true, laidLooks := .later }
def FnGptBackUptoCardSaid : Prop := Claim7.holds Tryz.pinned (.plain (OpenSpec.upto fnGptBackSpec)) fnGptBackUptoCard

/-- THE SECOND FORM's CARD OF 'laws.FnGptCut'. -/
def fnGptCutUptoCard : Claim7 := { stood := { row := fnGptCutUptoRow, standIns := [], harness := (true, "51c347355b049a355e857fdd237ac1632b1607452805e5b23dfef7c8c64416af"), looks := true }, kinds := [], alts := [], laidByText := true, laidKinds := [.data, .pinned], laidTests := true, laidLooks := .later }
def FnGptCutUptoCardSaid : Prop := Claim7.holds Tryz.pinned (.plain (OpenSpec.upto fnGptCutSpec)) fnGptCutUptoCard

/-- THE SECOND FORM's CARD OF 'laws.FnGptOrder'. -/
def fnGptOrderUptoCard : Claim7 := { stood := { row := fnGptOrderUptoRow, standIns := [], harness := (true, "51c347355b049a355e857fdd237ac1632b1607452805e5b23dfef7c8c64416af"), looks := true }, kinds := [], alts := [], laidByText := true, laidKinds := [.data, .pinned], laidTests := true, laidLooks := .later }
def FnGptOrderUptoCardSaid : Prop := Claim7.holds Tryz.pinned (.plain (OpenSpec.upto fnGptOrderSpec)) fnGptOrderUptoCard

/-- THE SECOND FORM's CARD OF 'laws.FnGptWrites'. -/
def fnGptWritesUptoCard : Claim7 := { stood := { row := fnGptWritesUptoRow, standIns := [], harness := (true, "51c347355b049a355e857fdd237ac1632b1607452805e5b23dfef7c8c64416af"), looks := true }, kinds := [], alts := [], laidByText := true, laidKinds := [.data, .pinned], laidTests := true, laidLooks := .later }
def FnGptWritesUptoCardSaid : Prop := Claim7.holds Tryz.pinned (.plain (OpenSpec.upto fnGptWritesSpec)) fnGptWritesUptoCard
end Rows
end Go.Proofs.YthcaejaaalkglaaGreatDoor
