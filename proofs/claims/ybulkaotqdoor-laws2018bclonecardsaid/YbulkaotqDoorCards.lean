/-
  DERIVED. GIVEN WITH THE SEED: THE CARDS: each row of YbulkaotqDoorRows.lean that lists a variable, with what it lists TIED to the program's text (the seventh form; the later family's looks); each row that meets fmt, with fmt's text TOLD by the authors' own Lean function (tested against real Go, not proved from fmt's source: count such statements apart). THE CARD IS WHAT COUNTS. Prove the row's statement (the work); the ties are given (YbulkaotqDoorTie.lean); close each card by the builder's one call (the guide's Derived/Test/ToyasCard.lean, 'card_holds'). Laid BY PROGRAM, IN A SANDBOX (cutbox-door.mjs). By AI agents, Wed Nov 11 2026. No macro, syntax, notation, axiom, sorry.
-/
import Derived.Test.YbulkaotqDoorRows
import GoSem.ClaimSeven
namespace Go.Proofs.YbulkaotqDoor
namespace Rows

/-- THE TIED CARD OF 'truepath.LawS2018BClone'. -/
def lawS2018BCloneCard : Claim7 := { stood := { row := lawS2018BCloneRow, standIns := [], harness := (true, "49db7a612c0a8ab67bc667857f005f17a8f2aa1edf156250d4e8386b14d6a4b7"), looks := false }, kinds := [], alts := [], laidByText := true, laidKinds := [.sentinel], laidTests := true, laidLooks := .later }
def LawS2018BCloneCardSaid : Prop := Claim7.holds Ybad.pinned (.plain (OpenSpec.ofChange lawS2018BCloneSpec)) lawS2018BCloneCard

/-- THE TIED CARD OF 'truepath.LawS2018BNotBuilt'. -/
def lawS2018BNotBuiltCard : Claim7 := { stood := { row := lawS2018BNotBuiltRow, standIns := [], harness := (true, "49db7a612c0a8ab67bc667857f005f17a8f2aa1edf156250d4e8386b14d6a4b7"), looks := false }, kinds := [], alts := [], laidByText := true, laidKinds := [.sentinel], laidTests := true, laidLooks := .later }
def LawS2018BNotBuiltCardSaid : Prop := Claim7.holds Ybad.pinned (.plain (OpenSpec.ofChange lawS2018BNotBuiltSpec)) lawS2018BNotBuiltCard
end Rows
end Go.Proofs.YbulkaotqDoor
