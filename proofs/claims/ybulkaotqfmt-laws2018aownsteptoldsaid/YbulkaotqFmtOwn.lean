/-
  'stepMatrices' (19) at the model's own step.
-/
import Derived.Test.YbulkaotqFmtFilt
namespace Go.Proofs.YbulkaotqFmt.Wk
open Go.RowKit Fl

/-- The word of the float -1: the model's own step. -/
def own1 : Nat := 13830554455654793216
theorem own1_eq : FloatKind.f64.format.order 13830554455654793216 13830554455654793216 = some .eq := by decide +kernel

set_option maxHeartbeats 1000000 in
theorem stepMat_own (w : World) (fb : Nat) (F : Nat → Value) (vf vb vq : Option Addr) (hF : w.rowIs fb 47 25 F) (h0 : F 0 = .pointer vf) (h1 : F 1 = .pointer vb) (h3 : F 3 = .pointer vq) :
    Calls Ybaf.prog 19 #[.pointer (some ⟨fb, 0, none⟩), .float .f64 own1] w fun e w' => e = .returned (.tuple #[.pointer vf, .pointer vb, .pointer vq]) ∧ ∃ q, w' = w.drewN q := by
  have c0 := hF.cell (i := 0) (by omega)
  have c1 := hF.cell (i := 1) (by omega)
  have c3 := hF.cell (i := 3) (by omega)
  rw [h0] at c0
  rw [h1] at c1
  rw [h3] at c3
  have he := own1_eq
  unfold own1
  clear hF h0 h1 h3
  go_enter Ybaf.func19, Ybaf.ntmps19
  go_wp2
  go_quiet (fail)
  go_wp2
  go_ret3
  exact ⟨rfl, _, rfl⟩
end Go.Proofs.YbulkaotqFmt.Wk
