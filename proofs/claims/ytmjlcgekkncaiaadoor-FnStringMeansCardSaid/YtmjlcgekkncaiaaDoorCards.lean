/-
  DERIVED. GIVEN WITH THE SEED: THE CARDS: each row of YtmjlcgekkncaiaaDoorRows.lean that lists a variable, with what it lists TIED to the program's text (the seventh form; the later family's looks); each row that meets fmt, with fmt's text TOLD by the authors' own Lean function (tested against real Go, not proved from fmt's source: count such statements apart). THE CARD IS WHAT COUNTS. Prove the row's statement (the work); the ties are given (YtmjlcgekkncaiaaDoorTie.lean); close each card by the builder's one call (the guide's Derived/Test/ToyasCard.lean, 'card_holds'). Laid BY PROGRAM, IN A SANDBOX (cutbox-door.mjs). By AI agents, Wed Nov 11 2026. No macro, syntax, notation, axiom, sorry.
-/
import Derived.Test.YtmjlcgekkncaiaaDoorRows
import GoSem.ClaimSeven
namespace Go.Proofs.YtmjlcgekkncaiaaDoor
namespace Rows

/-- THE TIED CARD OF 'laws.FnStringMeans'. -/
def fnStringMeansCard : Claim7 := { stood := { row := fnStringMeansRow, standIns := [], harness := (true, "a146dca26cb1c69c1b08ac9d9a0602c2a364f2ee62c5cd4d59f2ed95098d5bdb"), looks := false }, kinds := [], alts := [], laidByText := true, laidKinds := [.data, .data, .data, .data, .sentinel], laidTests := true, laidLooks := .later }
def FnStringMeansCardSaid : Prop := Claim7.holds Tryd.pinned (.plain (OpenSpec.ofChange fnStringMeansSpec)) fnStringMeansCard

/-- THE SECOND FORM's CARD OF 'laws.FnStringMeans'. -/
def fnStringMeansUptoCard : Claim7 := { stood := { row := fnStringMeansUptoRow, standIns := [], harness := (true, "a146dca26cb1c69c1b08ac9d9a0602c2a364f2ee62c5cd4d59f2ed95098d5bdb"), looks := false }, kinds := [], alts := [], laidByText := true, laidKinds := [.data, .data, .data, .data, .sentinel], laidTests := true, laidLooks := .later }
def FnStringMeansUptoCardSaid : Prop := Claim7.holds Tryd.pinned (.plain (OpenSpec.upto fnStringMeansSpec)) fnStringMeansUptoCard
end Rows
end Go.Proofs.YtmjlcgekkncaiaaDoor
