/-
  DERIVED. GIVEN WITH THE SEED: THE CARDS: each row of YtlhckhmoneeilaaGreatDoorRows.lean that lists a variable, with what it lists TIED to the program's text (the seventh form; the later family's looks); each row that meets fmt, with fmt's text TOLD by the authors' own Lean function (tested against real Go, not proved from fmt's source: count such statements apart). THE CARD IS WHAT COUNTS. Prove the row's statement (the work); the ties are given (YtlhckhmoneeilaaGreatDoorTie.lean); close each card by the builder's one call (the guide's Derived/Test/ToyasCard.lean, 'card_holds'). Laid BY PROGRAM, IN A SANDBOX (cutbox-door.mjs). By AI agents, Wed Nov 11 2026. No macro, syntax, notation, axiom, sorry.
-/
import Derived.Test.YtlhckhmoneeilaaGreatDoorRows
import GoSem.ClaimSeven
namespace Go.Proofs.YtlhckhmoneeilaaGreatDoor
namespace Rows

/-- THE TIED CARD OF 'laws.FnIndex'. -/
def fnIndexCard : Claim7 := { stood := { row := fnIndexRow, standIns := [], harness := (true, "fbb738224745b04c17d798a9366d9a68599301c54432a128f818b03ce8d89286"), looks := true }, kinds := [], alts := [], laidByText := true, laidKinds := [.sentinel, .sentinel], laidTests := true, laidLooks := .later }
def FnIndexCardSaid : Prop := Claim7.holds Tryz.pinned (.plain (OpenSpec.ofChange fnIndexSpec)) fnIndexCard

/-- THE TIED CARD OF 'laws.FnIndexTable'. -/
def fnIndexTableCard : Claim7 := { stood := { row := fnIndexTableRow, standIns := [], harness := (true, "fbb738224745b04c17d798a9366d9a68599301c54432a128f818b03ce8d89286"), looks := true }, kinds := [], alts := [], laidByText := true, laidKinds := [.sentinel, .sentinel], laidTests := true, laidLooks := .later }
def FnIndexTableCardSaid : Prop := Claim7.holds Tryz.pinned (.plain (OpenSpec.ofChange fnIndexTableSpec)) fnIndexTableCard

/-- THE TIED CARD OF 'laws.FnIndexOf'. -/
def fnIndexOfCard : Claim7 := { stood := { row := fnIndexOfRow, standIns := [], harness := (true, "fbb738224745b04c17d798a9366d9a68599301c54432a128f818b03ce8d89286"), looks := true }, kinds := [], alts := [], laidByText := true, laidKinds := [.sentinel, .sentinel, .sentinel], laidTests := true, laidLooks := .later }
def FnIndexOfCardSaid : Prop := Claim7.holds Tryz.pinned (.plain (OpenSpec.ofChange fnIndexOfSpec)) fnIndexOfCard

/-- THE SECOND FORM's CARD OF 'laws.FnIndex'. -/
def fnIndexUptoCard : Claim7 := { stood := { row := fnIndexUptoRow, standIns := [], harness := (true, "fbb738224745b04c17d798a9366d9a68599301c54432a128f818b03ce8d89286"), looks := true }, kinds := [], alts := [], laidByText := true, laidKinds := [.sentinel, .sentinel], laidTests := true, laidLooks := .later }
def FnIndexUptoCardSaid : Prop := Claim7.holds Tryz.pinned (.plain (OpenSpec.upto fnIndexSpec)) fnIndexUptoCard

/-- THE SECOND FORM's CARD OF 'laws.FnIndexTable'. -/
def fnIndexTableUptoCard : Claim7 := { stood := { row := fnIndexTableUptoRow, standIns := [], harness := (true, "fbb738224745b04c17d798a9366d9a68599301c54432a128f818b03ce8d89286"), looks := true }, kinds := [], alts := [], laidByText := true, laidKinds := [.sentinel, .sentinel], laidTests := true, laidLooks := .later }
def FnIndexTableUptoCardSaid : Prop := Claim7.holds Tryz.pinned (.plain (OpenSpec.upto fnIndexTableSpec)) fnIndexTableUptoCard

/-- THE SECOND FORM's CARD OF 'laws.FnIndexOf'. -/
def fnIndexOfUptoCard : Claim7 := { stood := { row := fnIndexOfUptoRow, standIns := [], harness := (true, "fbb738224745b04c17d798a9366d9a68599301c54432a128f818b03ce8d89286"), looks := true }, kinds := [], alts := [], laidByText := true, laidKinds := [.sentinel, .sentinel, .sentinel], laidTests := true, laidLooks := .later }
def FnIndexOfUptoCardSaid : Prop := Claim7.holds Tryz.pinned (.plain (OpenSpec.upto fnIndexOfSpec)) fnIndexOfUptoCard
end Rows
end Go.Proofs.YtlhckhmoneeilaaGreatDoor
