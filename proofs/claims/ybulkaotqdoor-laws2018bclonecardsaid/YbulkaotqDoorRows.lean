/-
  NARROWER THAN 'FOR EVERY INPUT', by the rows' own cells (each row's printed sentence says how): LawS2018BClone: ifaces, laid · LawS2018BNotBuilt: ifaces, laid.
  DERIVED. THE GIVEN ROWS OF THIS SEAT. 2 by the template 'for every input the law returns true; each argument reads behind the call as it read before'; 0 by the template 'total and deterministic' (their statements: YbulkaotqDoorTotals.lean).
  GIVEN WITH THE SEED: the statements are not yours to turn. If you find one false, say at which input.
  Laid BY PROGRAM, IN A SANDBOX (cutbox-rows.mjs): the forced cells as the released guide's own fill.sh prints them over the translation 1ecf4167c6b79716… (all of the seat's roots in one cut). By AI agents, Wed Nov 11 2026. No macro, syntax, notation, axiom, sorry.
-/
import Derived.Test.YbulkaotqDoorChecked
import GoSem.Claim
import GoSem.ClaimJoined
import GoSem.ClaimMapViews
import Derived.JoinedTies
import Derived.KernelRfl
namespace Go.Proofs.YbulkaotqDoor
/- THE CELL 'sum', in the pinned program and in every row, IS THE sha256 OF THE DUMP (.gsa) THAT YbulkaotqDoorProg.lean LOADS. Nothing in Lean hashes anything: it is a label: what it is worth is what the hold of that sum in a sandbox is worth. -/
noncomputable def Ybad.pinned : Pinned := { name := "ybulkaotqdoor", sum := "1ecf4167c6b79716f0eee2512ef9c40c88d2b033b41ad56ff7b539ad09b2f25d", checked := Ybad.checked }
namespace Rows
def none {H : Type} : Left H := { results := [], args := [] }

/- WHAT THE LISTED PACKAGE-LEVEL VARIABLES READ AS WHEN THE CALL BEGINS. Each datum BY PROGRAM (the guide's laid-datum.mjs) off the statement by which the dump's own 'gosem.cut.vars' lays the variable. In a bare row this is a premise. The card (YbulkaotqDoorCards.lean) ties it to the program's text. -/
def laid_example_com_truepath_truepath_errSimulatorNotBuilt {H : Type} : DataW H := .iface "*errors.errorString" (.ptr (.agg [.lit (.string [115, 105, 109, 117, 108, 97, 116, 111, 114, 32, 110, 111, 116, 32, 98, 117, 105, 108, 116, 32, 98, 121, 32, 78, 101, 119, 83, 105, 109, 117, 108, 97, 116, 111, 114])]))

/-- 'truepath.LawS2018BClone': WHATEVER THE INPUT: true; the input reads as it did. -/
def lawS2018BCloneSpec : ChangeSpec := { name := "lawS2018BClone", vars := ["example.com/truepath/truepath.errSimulatorNotBuilt"], fn := fun _ => fun
  | [d1, d2, g1] => { results := [.lit (.bool true)], args := [d1, d2], vars := [g1] }
  | _ => none }
def lawS2018BCloneRow : OpenClaim := { program := "ybulkaotqdoor", sum := "1ecf4167c6b79716f0eee2512ef9c40c88d2b033b41ad56ff7b539ad09b2f25d", func := "example.com/truepath/truepath.LawS2018BClone", spec := "lawS2018BClone", inPlace := ["math.Float64bits", "math.Float64frombits"], named := ["example.com/truepath/truepath.errSimulatorNotBuilt"], ifaces := true, apart := false, laid := [("example.com/truepath/truepath.errSimulatorNotBuilt", laid_example_com_truepath_truepath_errSimulatorNotBuilt)] }
def LawS2018BCloneSaid : Prop := lawS2018BCloneRow.holds Ybad.pinned (OpenSpec.ofChange lawS2018BCloneSpec)

/-- ITS FALSE NEIGHBOUR: 'it returns false'. Refute it at one input. -/
def lawS2018BCloneWrong : ChangeSpec := { name := "lawS2018BClone", vars := ["example.com/truepath/truepath.errSimulatorNotBuilt"], fn := fun _ => fun
  | [d1, d2, g1] => { results := [.lit (.bool false)], args := [d1, d2], vars := [g1] }
  | _ => none }
def LawS2018BCloneWrongFalsely : Prop := lawS2018BCloneRow.holds Ybad.pinned (OpenSpec.ofChange lawS2018BCloneWrong)

/-- 'truepath.LawS2018BNotBuilt': WHATEVER THE INPUT: true; the input reads as it did. -/
def lawS2018BNotBuiltSpec : ChangeSpec := { name := "lawS2018BNotBuilt", vars := ["example.com/truepath/truepath.errSimulatorNotBuilt"], fn := fun _ => fun
  | [d1, d2, g1] => { results := [.lit (.bool true)], args := [d1, d2], vars := [g1] }
  | _ => none }
def lawS2018BNotBuiltRow : OpenClaim := { program := "ybulkaotqdoor", sum := "1ecf4167c6b79716f0eee2512ef9c40c88d2b033b41ad56ff7b539ad09b2f25d", func := "example.com/truepath/truepath.LawS2018BNotBuilt", spec := "lawS2018BNotBuilt", named := ["example.com/truepath/truepath.errSimulatorNotBuilt"], ifaces := true, apart := false, laid := [("example.com/truepath/truepath.errSimulatorNotBuilt", laid_example_com_truepath_truepath_errSimulatorNotBuilt)] }
def LawS2018BNotBuiltSaid : Prop := lawS2018BNotBuiltRow.holds Ybad.pinned (OpenSpec.ofChange lawS2018BNotBuiltSpec)

/-- ITS FALSE NEIGHBOUR: 'it returns false'. Refute it at one input. -/
def lawS2018BNotBuiltWrong : ChangeSpec := { name := "lawS2018BNotBuilt", vars := ["example.com/truepath/truepath.errSimulatorNotBuilt"], fn := fun _ => fun
  | [d1, d2, g1] => { results := [.lit (.bool false)], args := [d1, d2], vars := [g1] }
  | _ => none }
def LawS2018BNotBuiltWrongFalsely : Prop := lawS2018BNotBuiltRow.holds Ybad.pinned (OpenSpec.ofChange lawS2018BNotBuiltWrong)

end Rows
end Go.Proofs.YbulkaotqDoor
