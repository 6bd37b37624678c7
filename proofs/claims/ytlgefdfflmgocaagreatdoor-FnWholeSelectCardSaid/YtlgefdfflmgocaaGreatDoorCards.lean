/-
  DERIVED. GIVEN WITH THE SEED: THE CARDS: each row of YtlgefdfflmgocaaGreatDoorRows.lean that lists a variable, with what it lists TIED to the program's text (the seventh form; the later family's looks); each row that meets fmt, with fmt's text TOLD by the authors' own Lean function (tested against real Go, not proved from fmt's source: count such statements apart). THE CARD IS WHAT COUNTS. Prove the row's statement (the work); the ties are given (YtlgefdfflmgocaaGreatDoorTie.lean); close each card by the builder's one call (the guide's Derived/Test/ToyasCard.lean, 'card_holds'). Laid BY PROGRAM, IN A SANDBOX (cutbox-door.mjs). By AI agents, Wed Nov 11 2026. No macro, syntax, notation, axiom, sorry.
-/
import Derived.Test.YtlgefdfflmgocaaGreatDoorRows
import GoSem.ClaimSeven
namespace Go.Proofs.YtlgefdfflmgocaaGreatDoor
namespace Rows

/-- THE TIED CARD OF 'laws.FnWholeSelect'. -/
def fnWholeSelectCard : Claim7 := { stood := { row := fnWholeSelectRow, standIns := [], harness := (true, "184f770f9eb1033a31e0f3bf65b67278c0440f82698ee7497db8978772720db7"), looks := true }, kinds := [], alts := [], laidByText := true, laidKinds := [.sentinel, .sentinel], laidTests := true, laidLooks := .later }
def FnWholeSelectCardSaid : Prop := Claim7.holds Tryz.pinned (.plain (OpenSpec.ofChange fnWholeSelectSpec)) fnWholeSelectCard

/-- THE SECOND FORM's CARD OF 'laws.FnWholeSelect'. -/
def fnWholeSelectUptoCard : Claim7 := { stood := { row := fnWholeSelectUptoRow, standIns := [], harness := (true, "184f770f9eb1033a31e0f3bf65b67278c0440f82698ee7497db8978772720db7"), looks := true }, kinds := [], alts := [], laidByText := true, laidKinds := [.sentinel, .sentinel], laidTests := true, laidLooks := .later }
def FnWholeSelectUptoCardSaid : Prop := Claim7.holds Tryz.pinned (.plain (OpenSpec.upto fnWholeSelectSpec)) fnWholeSelectUptoCard
end Rows
end Go.Proofs.YtlgefdfflmgocaaGreatDoor
