/-
  THE WALK OF 'LawS2004CStep' (function 8).
-/
import Derived.Test.YbulkaomcSampling
namespace Go.Proofs.Ybulkaomc
open Go.RowKit

set_option maxRecDepth 100000 in
set_option maxHeartbeats 1000000 in
theorem cstep_walk (a0 : Int) (a1 : Int) (a2 : Int) (w : World) :
    Calls Yba.prog 8 #[.int .i64 a0, .int .i64 a1, .int .i64 a2] w fun e w' => e = .returned (.bool true) ∧ Grown w w' := by
  obtain ⟨z, hz, hs, _⟩ := aim_zero
  by_cases h8 : wrap64 (a0 + 1) < 8
  · go_enter Yba.func8, Yba.ntmps8
    go_wp2_with (go_at_call 15; refine (sampling_lo _ a0 _ ?_ ?_ h8).mono ?_; (simp [hs]); (simp); rintro e w' ⟨rfl, rfl⟩)
    go_ret
    exact ⟨rfl, (Grown.refl w).alloc _ _⟩
  · go_enter Yba.func8, Yba.ntmps8
    go_wp2_with (go_at_call 15; refine (sampling_hi _ a0 _ ?_ ?_ h8).mono ?_; (simp [hs]); (simp); rintro e w' ⟨rfl, rfl⟩)
    go_ret
    exact ⟨rfl, (Grown.refl w).alloc _ _⟩
end Go.Proofs.Ybulkaomc
