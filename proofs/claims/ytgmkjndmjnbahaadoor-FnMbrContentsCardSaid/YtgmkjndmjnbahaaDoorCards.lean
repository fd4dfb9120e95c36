/-
  DERIVED. GIVEN WITH THE SEED: THE CARDS: each row of YtgmkjndmjnbahaaDoorRows.lean that lists a variable, with what it lists TIED to the program's text (the seventh form; the later family's looks); each row that meets fmt, with fmt's text TOLD by the authors' own Lean function (tested against real Go, not proved from fmt's source: count such statements apart). THE CARD IS WHAT COUNTS. Prove the row's statement (the work); the ties are given (YtgmkjndmjnbahaaDoorTie.lean); close each card by the builder's one call (the guide's Derived/Test/ToyasCard.lean, 'card_holds'). Laid BY PROGRAM, IN A SANDBOX (cutbox-door.mjs). By AI agents, Wed Nov 11 2026. No macro, syntax, notation, axiom, sorry.
-/
import Derived.Test.YtgmkjndmjnbahaaDoorRows
import GoSem.ClaimSeven
namespace Go.Proofs.YtgmkjndmjnbahaaDoor
namespace Rows

/-- THE TIED CARD OF 'laws.FnMbrContents'. -/
def fnMbrContentsCard : Claim7 := { stood := { row := fnMbrContentsRow, standIns := [], harness := (true, "7d600e97373be9e5f1d8c2c753f02604e9908c1a2493ce829ca5bd0a261b8a4b"), looks := true }, kinds := [], alts := [], laidByText := true, laidKinds := [.sentinel], laidTests := true, laidLooks := .later }
def FnMbrContentsCardSaid : Prop := Claim7.holds Tryd.pinned (.plain (OpenSpec.ofChange fnMbrContentsSpec)) fnMbrContentsCard

/-- THE SECOND FORM's CARD OF 'laws.FnMbrContents'. -/
def fnMbrContentsUptoCard : Claim7 := { stood := { row := fnMbrContentsUptoRow, standIns := [], harness := (true, "7d600e97373be9e5f1d8c2c753f02604e9908c1a2493ce829ca5bd0a261b8a4b"), looks := true }, kinds := [], alts := [], laidByText := true, laidKinds := [.sentinel], laidTests := true, laidLooks := .later }
def FnMbrContentsUptoCardSaid : Prop := Claim7.holds Tryd.pinned (.plain (OpenSpec.upto fnMbrContentsSpec)) fnMbrContentsUptoCard
end Rows
end Go.Proofs.YtgmkjndmjnbahaaDoor
