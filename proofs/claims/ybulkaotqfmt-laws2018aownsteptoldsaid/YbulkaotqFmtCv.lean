/-
  The walk of 'LawS2018AMotionStep' (4).
-/
import Derived.Test.YbulkaotqFmtAcov
import Derived.Test.YbulkaotqFmtChkM
import Derived.Test.YbulkaotqFmtNew
import Derived.Test.YbulkaotqFmtPred
namespace Go.Proofs.YbulkaotqFmt.Wk
open Go.RowKit Fl

theorem cvi (n : Int) (w : World) : (convert 22 26 (.int .i8 n)).run Ybaf.prog w = .ok (.float .f64 (floatOfInt .f64 n)) w := by kernel_rfl
theorem cvu (n : Int) (w : World) : (convert 5 26 (.int .u8 n)).run Ybaf.prog w = .ok (.float .f64 (floatOfInt .f64 n)) w := by kernel_rfl
theorem rep_int (n : Int) (h : Bd n 255) : Rep (floatOfInt .f64 n) n := int_rep n (h.small (by omega))
theorem rep_one : Rep 4607182418800017408 1 := by
  have h := int_rep 1 (by unfold Small; omega)
  have e : Ieee.double.write (.number (decide ((1 : Int) < 0)) (1 : Int).natAbs 0) = 4607182418800017408 := by decide +kernel
  rw [e] at h
  exact h
theorem rep_own : Rep 13830554455654793216 (-1) := by
  have h := int_rep (-1) (by unfold Small; omega)
  have e : Ieee.double.write (.number (decide ((-1 : Int) < 0)) (-1 : Int).natAbs 0) = 13830554455654793216 := by decide +kernel
  rw [e] at h
  exact h
theorem later {t : Nat} {z : Int} (h : Rep t z) (h0 : 0 ≤ z) : FloatKind.f64.format.order t 13830554455654793216 = some .gt := by
  have h1 := cmp_rep h rep_own
  have h2 : compare z (-1) = .gt := by
    rw [Int.compare_eq_gt]
    omega
  rw [h2] at h1
  exact h1
end Go.Proofs.YbulkaotqFmt.Wk
