/-
  DERIVED. GIVEN WITH THE SEED: THE CARDS: each row of YbulkaotqFmtRows.lean that lists a variable, with what it lists TIED to the program's text (the seventh form; the later family's looks); each row that meets fmt, with fmt's text TOLD by the authors' own Lean function (tested against real Go, not proved from fmt's source: count such statements apart). THE CARD IS WHAT COUNTS. Prove the row's statement (the work); the ties are given (YbulkaotqFmtTie.lean); close each card by the builder's one call (the guide's Derived/Test/ToyasCard.lean, 'card_holds'). Laid BY PROGRAM, IN A SANDBOX (cutbox-door.mjs). By AI agents, Wed Nov 11 2026. No macro, syntax, notation, axiom, sorry.
-/
import Derived.Test.YbulkaotqFmtRows
import GoSem.ClaimSeven
namespace Go.Proofs.YbulkaotqFmt
namespace Rows

/-- THE TOLD AND TIED CARD OF 'truepath.LawS2018AOwnStep'. -/
def lawS2018AOwnStepCard : Claim7 := { stood := { row := lawS2018AOwnStepRow, standIns := [], harness := (true, "605a5d60b0206032b56c96f71c7714d9993cf0db982d53bdb263ac293334cedb"), looks := false }, told := true, laidByText := true, laidKinds := [.sentinel], laidTests := true, laidLooks := .later, goes := false }
def LawS2018AOwnStepToldSaid : Prop := Claim7.holds Ybaf.pinned (.plain (OpenSpec.ofChange lawS2018AOwnStepSpec)) lawS2018AOwnStepCard
/-- ITS FALSE NEIGHBOUR. Refute it at one input. -/
def LawS2018AOwnStepToldWrongFalsely : Prop := Claim7.holds Ybaf.pinned (.plain (OpenSpec.ofChange lawS2018AOwnStepWrong)) lawS2018AOwnStepCard

/-- THE TOLD AND TIED CARD OF 'truepath.LawS2018AMotionStep'. -/
def lawS2018AMotionStepCard : Claim7 := { stood := { row := lawS2018AMotionStepRow, standIns := [], harness := (true, "605a5d60b0206032b56c96f71c7714d9993cf0db982d53bdb263ac293334cedb"), looks := false }, told := true, laidByText := true, laidKinds := [.sentinel], laidTests := true, laidLooks := .later, goes := false }
def LawS2018AMotionStepToldSaid : Prop := Claim7.holds Ybaf.pinned (.plain (OpenSpec.ofChange lawS2018AMotionStepSpec)) lawS2018AMotionStepCard
/-- ITS FALSE NEIGHBOUR. Refute it at one input. -/
def LawS2018AMotionStepToldWrongFalsely : Prop := Claim7.holds Ybaf.pinned (.plain (OpenSpec.ofChange lawS2018AMotionStepWrong)) lawS2018AMotionStepCard
end Rows
end Go.Proofs.YbulkaotqFmt
