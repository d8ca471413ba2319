/-
  No cell of these rows narrows 'for every input' (looked for: loops, veiled, ifaces, maps, wideKeys, modest, calm, conditions, laid).
  DERIVED. THE GIVEN ROWS OF THIS SEAT. 6 by the template 'for every input the law returns true; each argument reads behind the call as it read before'; 0 by the template 'total and deterministic' (their statements: YbulkaomcTotals.lean).
  GIVEN WITH THE SEED: the statements are not yours to turn. If you find one false, say at which input.
  Laid BY PROGRAM, IN A SANDBOX (cutbox-rows.mjs): the forced cells as the released guide's own fill.sh prints them over the translation e86b4ffe5ad4d197… (all of the seat's roots in one cut). By AI agents, Wed Nov 11 2026. No macro, syntax, notation, axiom, sorry.
-/
import Derived.Test.YbulkaomcChecked
import GoSem.Claim
import GoSem.ClaimJoined
import GoSem.ClaimMapViews
import Derived.JoinedTies
import Derived.KernelRfl
namespace Go.Proofs.Ybulkaomc
/- THE CELL 'sum', in the pinned program and in every row, IS THE sha256 OF THE DUMP (.gsa) THAT YbulkaomcProg.lean LOADS. Nothing in Lean hashes anything: it is a label: what it is worth is what the hold of that sum in a sandbox is worth. -/
noncomputable def Yba.pinned : Pinned := { name := "ybulkaomc", sum := "e86b4ffe5ad4d19758fd15995b1e1f062510c5d06f4c0a1a199310f78551e824", checked := Yba.checked }
namespace Rows
def none {H : Type} : Left H := { results := [], args := [] }

/-- 'accuracy.LawS2004AExact': WHATEVER THE INPUT: true; the input reads as it did. -/
def lawS2004AExactSpec : ChangeSpec := { name := "lawS2004AExact", fn := fun _ => fun
  | [d1, d2] => { results := [.lit (.bool true)], args := [d1, d2] }
  | _ => none }
def lawS2004AExactRow : OpenClaim := { program := "ybulkaomc", sum := "e86b4ffe5ad4d19758fd15995b1e1f062510c5d06f4c0a1a199310f78551e824", func := "example.com/skein/skein/internal/accuracy.LawS2004AExact", spec := "lawS2004AExact", apart := false }
def LawS2004AExactSaid : Prop := lawS2004AExactRow.holds Yba.pinned (OpenSpec.ofChange lawS2004AExactSpec)

/-- ITS FALSE NEIGHBOUR: 'it returns false'. Refute it at one input. -/
def lawS2004AExactWrong : ChangeSpec := { name := "lawS2004AExact", fn := fun _ => fun
  | [d1, d2] => { results := [.lit (.bool false)], args := [d1, d2] }
  | _ => none }
def LawS2004AExactWrongFalsely : Prop := lawS2004AExactRow.holds Yba.pinned (OpenSpec.ofChange lawS2004AExactWrong)

/-- 'accuracy.LawS2004ACausal': WHATEVER THE INPUT: true; the input reads as it did. -/
def lawS2004ACausalSpec : ChangeSpec := { name := "lawS2004ACausal", fn := fun _ => fun
  | [d1, d2] => { results := [.lit (.bool true)], args := [d1, d2] }
  | _ => none }
def lawS2004ACausalRow : OpenClaim := { program := "ybulkaomc", sum := "e86b4ffe5ad4d19758fd15995b1e1f062510c5d06f4c0a1a199310f78551e824", func := "example.com/skein/skein/internal/accuracy.LawS2004ACausal", spec := "lawS2004ACausal", apart := false }
def LawS2004ACausalSaid : Prop := lawS2004ACausalRow.holds Yba.pinned (OpenSpec.ofChange lawS2004ACausalSpec)

/-- ITS FALSE NEIGHBOUR: 'it returns false'. Refute it at one input. -/
def lawS2004ACausalWrong : ChangeSpec := { name := "lawS2004ACausal", fn := fun _ => fun
  | [d1, d2] => { results := [.lit (.bool false)], args := [d1, d2] }
  | _ => none }
def LawS2004ACausalWrongFalsely : Prop := lawS2004ACausalRow.holds Yba.pinned (OpenSpec.ofChange lawS2004ACausalWrong)

/-- 'causal.LawS2004BExact': WHATEVER THE INPUT: true; the input reads as it did. -/
def lawS2004BExactSpec : ChangeSpec := { name := "lawS2004BExact", fn := fun _ => fun
  | [d1, d2] => { results := [.lit (.bool true)], args := [d1, d2] }
  | _ => none }
def lawS2004BExactRow : OpenClaim := { program := "ybulkaomc", sum := "e86b4ffe5ad4d19758fd15995b1e1f062510c5d06f4c0a1a199310f78551e824", func := "example.com/skein/skein/internal/causal.LawS2004BExact", spec := "lawS2004BExact", apart := false }
def LawS2004BExactSaid : Prop := lawS2004BExactRow.holds Yba.pinned (OpenSpec.ofChange lawS2004BExactSpec)

/-- ITS FALSE NEIGHBOUR: 'it returns false'. Refute it at one input. -/
def lawS2004BExactWrong : ChangeSpec := { name := "lawS2004BExact", fn := fun _ => fun
  | [d1, d2] => { results := [.lit (.bool false)], args := [d1, d2] }
  | _ => none }
def LawS2004BExactWrongFalsely : Prop := lawS2004BExactRow.holds Yba.pinned (OpenSpec.ofChange lawS2004BExactWrong)

/-- 'causal.LawS2004BPerm': WHATEVER THE INPUT: true; the input reads as it did. -/
def lawS2004BPermSpec : ChangeSpec := { name := "lawS2004BPerm", fn := fun _ => fun
  | [d1, d2] => { results := [.lit (.bool true)], args := [d1, d2] }
  | _ => none }
def lawS2004BPermRow : OpenClaim := { program := "ybulkaomc", sum := "e86b4ffe5ad4d19758fd15995b1e1f062510c5d06f4c0a1a199310f78551e824", func := "example.com/skein/skein/internal/causal.LawS2004BPerm", spec := "lawS2004BPerm", recurses := true, apart := false }
def LawS2004BPermSaid : Prop := lawS2004BPermRow.holds Yba.pinned (OpenSpec.ofChange lawS2004BPermSpec)

/-- ITS FALSE NEIGHBOUR: 'it returns false'. Refute it at one input. -/
def lawS2004BPermWrong : ChangeSpec := { name := "lawS2004BPerm", fn := fun _ => fun
  | [d1, d2] => { results := [.lit (.bool false)], args := [d1, d2] }
  | _ => none }
def LawS2004BPermWrongFalsely : Prop := lawS2004BPermRow.holds Yba.pinned (OpenSpec.ofChange lawS2004BPermWrong)

/-- 'causal.LawS2004CCycle': WHATEVER THE INPUT: true; the input reads as it did. -/
def lawS2004CCycleSpec : ChangeSpec := { name := "lawS2004CCycle", fn := fun _ => fun
  | [d] => { results := [.lit (.bool true)], args := [d] }
  | _ => none }
def lawS2004CCycleRow : OpenClaim := { program := "ybulkaomc", sum := "e86b4ffe5ad4d19758fd15995b1e1f062510c5d06f4c0a1a199310f78551e824", func := "example.com/skein/skein/internal/causal.LawS2004CCycle", spec := "lawS2004CCycle", apart := false }
def LawS2004CCycleSaid : Prop := lawS2004CCycleRow.holds Yba.pinned (OpenSpec.ofChange lawS2004CCycleSpec)

/-- ITS FALSE NEIGHBOUR: 'it returns false'. Refute it at one input. -/
def lawS2004CCycleWrong : ChangeSpec := { name := "lawS2004CCycle", fn := fun _ => fun
  | [d] => { results := [.lit (.bool false)], args := [d] }
  | _ => none }
def LawS2004CCycleWrongFalsely : Prop := lawS2004CCycleRow.holds Yba.pinned (OpenSpec.ofChange lawS2004CCycleWrong)

/-- 'causal.LawS2004CStep': WHATEVER THE INPUT: true; the input reads as it did. -/
def lawS2004CStepSpec : ChangeSpec := { name := "lawS2004CStep", fn := fun _ => fun
  | [d1, d2, d3] => { results := [.lit (.bool true)], args := [d1, d2, d3] }
  | _ => none }
def lawS2004CStepRow : OpenClaim := { program := "ybulkaomc", sum := "e86b4ffe5ad4d19758fd15995b1e1f062510c5d06f4c0a1a199310f78551e824", func := "example.com/skein/skein/internal/causal.LawS2004CStep", spec := "lawS2004CStep", apart := false }
def LawS2004CStepSaid : Prop := lawS2004CStepRow.holds Yba.pinned (OpenSpec.ofChange lawS2004CStepSpec)

/-- ITS FALSE NEIGHBOUR: 'it returns false'. Refute it at one input. -/
def lawS2004CStepWrong : ChangeSpec := { name := "lawS2004CStep", fn := fun _ => fun
  | [d1, d2, d3] => { results := [.lit (.bool false)], args := [d1, d2, d3] }
  | _ => none }
def LawS2004CStepWrongFalsely : Prop := lawS2004CStepRow.holds Yba.pinned (OpenSpec.ofChange lawS2004CStepWrong)

end Rows
end Go.Proofs.Ybulkaomc
