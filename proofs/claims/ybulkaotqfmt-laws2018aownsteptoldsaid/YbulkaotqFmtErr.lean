/-
  'fmt.Errorf' (20) with one int: an error that is not nil, whatever fmt's text is.
-/
import Derived.Test.YbulkaotqFmtMem
import Derived.Stop.CallBack
import Derived.Stop.IfaceNil
import Derived.Stop.FmtTextLaws
import GoSem.ClaimData
namespace Go.Proofs.YbulkaotqFmt.Wk
open Go.RowKit Go.Extern.Stop Go.Stop Go.Extern

theorem call32 (args : Array Value) (w : World) : (callFunc 32 args).run Ybaf.prog w = ((FmtStop.errorf #[9, 87] #[35] args).run Ybaf.prog w).andThen fun v w' => .ok (.value v) w' :=
  run_callFunc_extern Ybaf.func32 (by kernel_rfl) (by kernel_rfl) (by kernel_rfl) (by kernel_rfl) args w
theorem guard32 (name : String) (w : World) : (FmtStop.guard name).run Ybaf.prog w = .ok () w := by kernel_rfl
def shape3 : List UInt8 := [5, 3, 0, 0, 0, 0, 0, 0, 0, 105, 110, 116]
theorem op3_100w (name : String) (x : Int) (w : World) : (FmtStop.operand name true 100 false (.iface 3 (.int .i64 x))).run Ybaf.prog w = .ok (shape3, digits 8 (x % 2 ^ 64).toNat) w := by kernel_rfl
theorem ptr91 (w : World) : (FmtStop.ptrTo "errors.errorString").run Ybaf.prog w = .ok 91 w := by kernel_rfl
theorem elem91 (w : World) : (elemOf 91).run Ybaf.prog w = .ok 93 w := by kernel_rfl
theorem isErr91 (w : World) : (FmtDoors.textMethod 91 "Error").run Ybaf.prog w = .ok true w := by kernel_rfl

theorem errorf_one (F : Interp) (fm : ByteArray) (n : Int) (blk : Nat) (w : World) (hF : F.answers w.tape) (hpr : ∀ w : World, (FmtDoors.printed fm 1).run Ybaf.prog w = .ok [(0, 100, false)] w)
    (hc0 : w.cell? ⟨blk, 0, none⟩ = some (.iface 3 (.int .i64 n))) :
    Calls Ybaf.prog 20 #[.string fm, .slice (some ⟨blk, 0, none⟩) 1 1] w fun e w' => (∃ v, e = .returned (.iface 91 v)) ∧ Fr [] w w' := by
  have hF' : ∀ i name reading k range, w.tape i (.extern (word name reading k) range) = F name reading k := hF
  have a1 := call32
  have a2 := guard32
  have a3 := op3_100w
  have a4 := ptr91
  have a5 := elem91
  have a6 := isErr91
  go_enter Ybaf.func20, Ybaf.ntmps20
  go_wp2
  go_ret
  exact ⟨⟨_, rfl⟩, ((Fr.refl [] w).alloc _).drew⟩
end Go.Proofs.YbulkaotqFmt.Wk
