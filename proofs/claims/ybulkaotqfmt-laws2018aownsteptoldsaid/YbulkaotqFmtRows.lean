/-
  NARROWER THAN 'FOR EVERY INPUT', by the rows' own cells (each row's printed sentence says how): LawS2018AOwnStep: ifaces, laid · LawS2018AMotionStep: ifaces, laid.
  DERIVED. THE GIVEN ROWS OF THIS SEAT. 2 by the template 'for every input the law returns true; each argument reads behind the call as it read before'; 0 by the template 'total and deterministic' (their statements: YbulkaotqFmtTotals.lean).
  GIVEN WITH THE SEED: the statements are not yours to turn. If you find one false, say at which input.
  Laid BY PROGRAM, IN A SANDBOX (cutbox-rows.mjs): the forced cells as the released guide's own fill.sh prints them over the translation 2c1b25f5afdec87d… (all of the seat's roots in one cut). By AI agents, Wed Nov 11 2026. No macro, syntax, notation, axiom, sorry.
-/
import Derived.Test.YbulkaotqFmtChecked
import GoSem.Claim
import GoSem.ClaimJoined
import GoSem.ClaimMapViews
import Derived.JoinedTies
import Derived.KernelRfl
namespace Go.Proofs.YbulkaotqFmt
/- THE CELL 'sum', in the pinned program and in every row, IS THE sha256 OF THE DUMP (.gsa) THAT YbulkaotqFmtProg.lean LOADS. Nothing in Lean hashes anything: it is a label: what it is worth is what the hold of that sum in a sandbox is worth. -/
noncomputable def Ybaf.pinned : Pinned := { name := "ybulkaotqfmt", sum := "2c1b25f5afdec87d94c5b45e3b19955ba1ea03367137e306149604cf563f9887", checked := Ybaf.checked }
namespace Rows
def none {H : Type} : Left H := { results := [], args := [] }

/- WHAT THE LISTED PACKAGE-LEVEL VARIABLES READ AS WHEN THE CALL BEGINS. Each datum BY PROGRAM (the guide's laid-datum.mjs) off the statement by which the dump's own 'gosem.cut.vars' lays the variable. In a bare row this is a premise. The card (YbulkaotqFmtCards.lean) ties it to the program's text. -/
def laid_example_com_truepath_truepath_errNotBuilt {H : Type} : DataW H := .iface "*errors.errorString" (.ptr (.agg [.lit (.string [102, 105, 108, 116, 101, 114, 32, 110, 111, 116, 32, 98, 117, 105, 108, 116, 32, 98, 121, 32, 78, 101, 119, 70, 105, 108, 116, 101, 114])]))

/-- 'truepath.LawS2018AOwnStep': WHATEVER THE INPUT: true; the input reads as it did. -/
def lawS2018AOwnStepSpec : ChangeSpec := { name := "lawS2018AOwnStep", vars := ["example.com/truepath/truepath.errNotBuilt"], fn := fun _ => fun
  | [d1, d2, d3, d4, d5, d6, d7, d8, g1] => { results := [.lit (.bool true)], args := [d1, d2, d3, d4, d5, d6, d7, d8], vars := [g1] }
  | _ => none }
def lawS2018AOwnStepRow : OpenClaim := { program := "ybulkaotqfmt", sum := "2c1b25f5afdec87d94c5b45e3b19955ba1ea03367137e306149604cf563f9887", func := "example.com/truepath/truepath.LawS2018AOwnStep", spec := "lawS2018AOwnStep", stops := ["fmt.errorf", "fmt.Sprintf"], inPlace := ["fmt.errorf", "fmt.Sprintf", "math.Float64bits", "math.Float64frombits", "math.sqrt"], unfollowed := true, recurses := true, named := ["example.com/truepath/truepath.errNotBuilt"], ifaces := true, apart := false, laid := [("example.com/truepath/truepath.errNotBuilt", laid_example_com_truepath_truepath_errNotBuilt)] }
/-- NO THEOREM (fmt's text is open here; it may be false): for the released tool's asking of the row's closed facts alone. THE STATEMENT IS 'LawS2018AOwnStepToldSaid' (YbulkaotqFmtCards.lean). -/
def LawS2018AOwnStepFormAsk : Prop := lawS2018AOwnStepRow.holds Ybaf.pinned (OpenSpec.ofChange lawS2018AOwnStepSpec)

/-- ITS FALSE NEIGHBOUR: 'it returns false'. Refute it at one input. -/
def lawS2018AOwnStepWrong : ChangeSpec := { name := "lawS2018AOwnStep", vars := ["example.com/truepath/truepath.errNotBuilt"], fn := fun _ => fun
  | [d1, d2, d3, d4, d5, d6, d7, d8, g1] => { results := [.lit (.bool false)], args := [d1, d2, d3, d4, d5, d6, d7, d8], vars := [g1] }
  | _ => none }
def LawS2018AOwnStepWrongFormAsk : Prop := lawS2018AOwnStepRow.holds Ybaf.pinned (OpenSpec.ofChange lawS2018AOwnStepWrong)

/-- 'truepath.LawS2018AMotionStep': WHATEVER THE INPUT: true; the input reads as it did. -/
def lawS2018AMotionStepSpec : ChangeSpec := { name := "lawS2018AMotionStep", vars := ["example.com/truepath/truepath.errNotBuilt"], fn := fun _ => fun
  | [d1, d2, d3, d4, d5, g1] => { results := [.lit (.bool true)], args := [d1, d2, d3, d4, d5], vars := [g1] }
  | _ => none }
def lawS2018AMotionStepRow : OpenClaim := { program := "ybulkaotqfmt", sum := "2c1b25f5afdec87d94c5b45e3b19955ba1ea03367137e306149604cf563f9887", func := "example.com/truepath/truepath.LawS2018AMotionStep", spec := "lawS2018AMotionStep", stops := ["fmt.errorf", "fmt.Sprintf"], inPlace := ["fmt.errorf", "fmt.Sprintf", "math.Float64bits", "math.Float64frombits", "math.sqrt"], unfollowed := true, recurses := true, named := ["example.com/truepath/truepath.errNotBuilt"], ifaces := true, apart := false, laid := [("example.com/truepath/truepath.errNotBuilt", laid_example_com_truepath_truepath_errNotBuilt)] }
/-- NO THEOREM (fmt's text is open here; it may be false): for the released tool's asking of the row's closed facts alone. THE STATEMENT IS 'LawS2018AMotionStepToldSaid' (YbulkaotqFmtCards.lean). -/
def LawS2018AMotionStepFormAsk : Prop := lawS2018AMotionStepRow.holds Ybaf.pinned (OpenSpec.ofChange lawS2018AMotionStepSpec)

/-- ITS FALSE NEIGHBOUR: 'it returns false'. Refute it at one input. -/
def lawS2018AMotionStepWrong : ChangeSpec := { name := "lawS2018AMotionStep", vars := ["example.com/truepath/truepath.errNotBuilt"], fn := fun _ => fun
  | [d1, d2, d3, d4, d5, g1] => { results := [.lit (.bool false)], args := [d1, d2, d3, d4, d5], vars := [g1] }
  | _ => none }
def LawS2018AMotionStepWrongFormAsk : Prop := lawS2018AMotionStepRow.holds Ybaf.pinned (OpenSpec.ofChange lawS2018AMotionStepWrong)

end Rows
end Go.Proofs.YbulkaotqFmt
