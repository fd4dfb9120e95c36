/-
  DERIVED. GIVEN WITH THE SEED: THE CARDS: each row of YthcaejaaalkglaaDoorRows.lean that lists a variable, with what it lists TIED to the program's text (the seventh form; the later family's looks); each row that meets fmt, with fmt's text TOLD by the authors' own Lean function (tested against real Go, not proved from fmt's source: count such statements apart). THE CARD IS WHAT COUNTS. Prove the row's statement (the work); the ties are given (YthcaejaaalkglaaDoorTie.lean); close each card by the builder's one call (the guide's Derived/Test/ToyasCard.lean, 'card_holds'). Laid BY PROGRAM, IN A SANDBOX (cutbox-door.mjs). By AI agents, Wed Nov 11 2026. No macro, syntax, notation, axiom, sorry.
-/
import Derived.Test.YthcaejaaalkglaaDoorRows
import GoSem.ClaimSeven
namespace Go.Proofs.YthcaejaaalkglaaDoor
namespace Rows

/-- THE TIED CARD OF 'laws.FnGptReads'. -/
def fnGptReadsCard : Claim7 := { stood := { row := fnGptReadsRow, standIns := [], harness := (true, "17ac4df978c1885c2dc2018625d16912d53ec2ed8d107d1e0b2c92e645b24399"), looks := true }, kinds := [], alts := [], laidByText := true, laidKinds := [.data, .pinned], laidTests := true, laidLooks := .later }
def FnGptReadsCardSaid : Prop := Claim7.holds Tryd.pinned (.plain (OpenSpec.ofChange fnGptReadsSpec)) fnGptReadsCard

/-- THE TIED CARD OF 'laws.FnGptRecovers'. -/
def fnGptRecoversCard : Claim7 := { stood := { row := fnGptRecoversRow, standIns := [], harness := (true, "17ac4df978c1885c2dc2018625d16912d53ec2ed8d107d1e0b2c92e645b24399"), looks := true }, kinds := [], alts := [], laidByText := true, laidKinds := [.data, .pinned], laidTests := true, laidLooks := .later }
def FnGptRecoversCardSaid : Prop := Claim7.holds Tryd.pinned (.plain (OpenSpec.ofChange fnGptRecoversSpec)) fnGptRecoversCard

/-- THE TIED CARD OF 'laws.FnGptEqual'. -/
def fnGptEqualCard : Claim7 := { stood := { row := fnGptEqualRow, standIns := [], harness := (true, "17ac4df978c1885c2dc2018625d16912d53ec2ed8d107d1e0b2c92e645b24399"), looks := true }, kinds := [], alts := [], laidByText := true, laidKinds := [.data, .pinned], laidTests := true, laidLooks := .later }
def FnGptEqualCardSaid : Prop := Claim7.holds Tryd.pinned (.plain (OpenSpec.ofChange fnGptEqualSpec)) fnGptEqualCard

/-- THE TIED CARD OF 'laws.FnGptVerifies'. -/
def fnGptVerifiesCard : Claim7 := { stood := { row := fnGptVerifiesRow, standIns := [], harness := (true, "17ac4df978c1885c2dc2018625d16912d53ec2ed8d107d1e0b2c92e645b24399"), looks := true }, kinds := [], alts := [], laidByText := true, laidKinds := [.data, .pinned], laidTests := true, laidLooks := .later }
def FnGptVerifiesCardSaid : Prop := Claim7.holds Tryd.pinned (.plain (OpenSpec.ofChange fnGptVerifiesSpec)) fnGptVerifiesCard

/-- THE SECOND FORM's CARD OF 'laws.FnGptReads'. -/
def fnGptReadsUptoCard : Claim7 := { stood := { row := fnGptReadsUptoRow, standIns := [], harness := (true, "17ac4df978c1885c2dc2018625d16912d53ec2ed8d107d1e0b2c92e645b24399"), looks := true }, kinds := [], alts := [], laidByText := true, laidKinds := [.data, .pinned], laidTests := true, laidLooks := .later }
def FnGptReadsUptoCardSaid : Prop := Claim7.holds Tryd.pinned (.plain (OpenSpec.upto fnGptReadsSpec)) fnGptReadsUptoCard

/-- THE SECOND FORM's CARD OF 'laws.FnGptRecovers'. -/
def fnGptRecoversUptoCard : Claim7 := { stood := { row := fnGptRecoversUptoRow, standIns := [], harness := (true, "17ac4df978c1885c2dc2018625d16912d53ec2ed8d107d1e0b2c92e645b24399"), looks := true }, kinds := [], alts := [], laidByText := true, laidKinds := [.data, .pinned], laidTests := true, laidLooks := .later }
def FnGptRecoversUptoCardSaid : Prop := Claim7.holds Tryd.pinned (.plain (OpenSpec.upto fnGptRecoversSpec)) fnGptRecoversUptoCard

/-- THE SECOND FORM's CARD OF 'laws.FnGptEqual'. -/
def fnGptEqualUptoCard : Claim7 := { stood := { row := fnGptEqualUptoRow, standIns := [], harness := (true, "17ac4df978c1885c2dc2018625d16912d53ec2ed8d107d1e0b2c92e645b24399"), looks := true }, kinds := [], alts := [], laidByText := true, laidKinds := [.data, .pinned], laidTests := true, laidLooks := .later }
def FnGptEqualUptoCardSaid : Prop := Claim7.holds Tryd.pinned (.plain (OpenSpec.upto fnGptEqualSpec)) fnGptEqualUptoCard

/-- THE SECOND FORM's CARD OF 'laws.FnGptVerifies'. -/
def fnGptVerifiesUptoCard : Claim7 := { stood := { row := fnGptVerifiesUptoRow, standIns := [], harness := (true, "17ac4df978c1885c2dc2018625d16912d53ec2ed8d107d1e0b2c92e645b24399"), looks := true }, kinds := [], alts := [], laidByText := true, laidKinds := [.data, .pinned], laidTests := true, laidLooks := .later }
def FnGptVerifiesUptoCardSaid : Prop := Claim7.holds Tryd.pinned (.plain (OpenSpec.upto fnGptVerifiesSpec)) fnGptVerifiesUptoCard
end Rows
end Go.Proofs.YthcaejaaalkglaaDoor
