/-
  THE CHECK OF A COVARIANCE, AT A DIAGONAL MATRIX OF ONE OR TWO ROWS: 'FirstAsymmetric' (39), 'Symmetrize' (40).
-/
import Derived.Test.YbulkaotqFmtFrom
import Derived.Test.YbulkaotqFmtDg
import Derived.Deep.RegionHeld3
namespace Go.Proofs.YbulkaotqFmt.Wk
open Go.RowKit

theorem sub00 : Ieee.double.sub 0 0 = some 0 := by kernel_rfl
theorem abs0 : absW 0 = 0 := by kernel_rfl
theorem eq00 : Ieee.double.order 0 0 = some .eq := by kernel_rfl

theorem abs_q (x : Nat) (w : World) : Calls Ybaf.prog 46 #[.float .f64 x] w fun e w' => e = .returned (.float .f64 (absW x)) ∧ w' = w := (abs_any x w).mono fun _ _ h => ⟨h.1, h.2.symm⟩
theorem abs_0 (w : World) : Calls Ybaf.prog 46 #[.float .f64 0] w fun e w' => e = .returned (.float .f64 0) ∧ w' = w := by
  have := abs_q 0 w
  rwa [abs0] at this

set_option maxRecDepth 100000 in
set_option maxHeartbeats 1000000 in
theorem fa2 (w : World) (d b : Nat) (f : Nat → Nat) (m : Mat w d 2 2 b f) (h1 : f 1 = 0) (h2 : f 2 = 0) (g0 : Good (f 0)) (g3 : Good (f 3)) :
    Calls Ybaf.prog 39 #[.pointer (some ⟨d, 0, none⟩), .float .f64 tol] w fun e w' => e = .returned (.tuple #[.int .i64 (-1), .int .i64 (-1)]) ∧ ∃ q, w' = w.drewN q := by
  obtain ⟨s0, t0, _, _, _, _, _, G0⟩ := g0
  obtain ⟨s3, t3, _, _, _, _, _, G3⟩ := g3
  obtain ⟨l, hl, hgt⟩ := mul_nn G0.nt G3.ns
  have c0 := m.c0
  have c1 := m.c1
  have c2 := m.c2
  have e0 := m.data.cell (i := 0) (by omega)
  have e1 := m.data.cell (i := 1) (by omega)
  have e2 := m.data.cell (i := 2) (by omega)
  have e3 := m.data.cell (i := 3) (by omega)
  unfold fv at e0 e1 e2 e3
  rw [h1] at e1
  rw [h2] at e2
  have m1 := mul_run G0.tmul
  have m2 := mul_run hl
  have m3 := sub_run sub00
  have hgt' : (FloatKind.f64.format.order 0 l == some .gt) = false := hgt
  have Q0 := hide G0
  have Q3 := hide G3
  generalize hd0 : f 0 = d0 at *
  generalize hd3 : f 3 = d3 at *
  generalize tol = tl at *
  clear m h1 h2 hl hgt hd0 hd3 G0 G3
  simp only [Nat.reduceMul] at c2
  go_enter Ybaf.func39, Ybaf.ntmps39
  go_wp2
  go_quiet (fail)
  go_wp2
  refine wp_loop_rounds 3 ?_
  rw [rounds_succ]
  go_wp2_with (first | (go_at_call 46; refine (abs_any _ _).mono ?_; rintro e w' ⟨rfl, rfl⟩; rw [(unhide Q0).abs]) | (go_at_call 45; refine (sqrt_any _ _ (unhide Q0).sqrt _).mono ?_; rintro e w' ⟨rfl, rfl⟩))
  refine wp_loop_rounds 2 ?_
  rw [rounds_succ]
  go_wp2_with (first | (go_at_call 46; refine (abs_any _ _).mono ?_; rintro e w' ⟨rfl, rfl⟩; rw [(unhide Q3).abs]) | (go_at_call 45; refine (sqrt_any _ _ (unhide Q3).sqrt _).mono ?_; rintro e w' ⟨rfl, rfl⟩))
  go_quiet ((go_at_call 46; exact (abs_0 _).mono fun e w' h => ⟨h.1, _, h.2⟩))
  go_wp2
  rw [rounds_succ]
  go_wp2
  rw [rounds_succ]
  go_wp2_with (first | (go_at_call 46; refine (abs_any _ _).mono ?_; rintro e w' ⟨rfl, rfl⟩; rw [(unhide Q3).abs]) | (go_at_call 45; refine (sqrt_any _ _ (unhide Q3).sqrt _).mono ?_; rintro e w' ⟨rfl, rfl⟩))
  refine wp_loop_rounds 1 ?_
  rw [rounds_succ]
  go_wp2
  rw [rounds_succ]
  go_wp2
  go_ret2
  exact ⟨rfl, _, rfl⟩

set_option maxRecDepth 100000 in
set_option maxHeartbeats 1000000 in
theorem fa1 (w : World) (d b : Nat) (f : Nat → Nat) (m : Mat w d 1 1 b f) (g0 : Good (f 0)) :
    Calls Ybaf.prog 39 #[.pointer (some ⟨d, 0, none⟩), .float .f64 tol] w fun e w' => e = .returned (.tuple #[.int .i64 (-1), .int .i64 (-1)]) ∧ ∃ q, w' = w.drewN q := by
  obtain ⟨s0, t0, _, _, _, _, _, G0⟩ := g0
  have c0 := m.c0
  have c1 := m.c1
  have c2 := m.c2
  have e0 := m.data.cell (i := 0) (by omega)
  unfold fv at e0
  have Q0 := hide G0
  generalize hd0 : f 0 = d0 at *
  generalize tol = tl at *
  clear m hd0 G0
  simp only [Nat.reduceMul] at c2
  go_enter Ybaf.func39, Ybaf.ntmps39
  go_wp2
  go_quiet (fail)
  go_wp2
  refine wp_loop_rounds 2 ?_
  rw [rounds_succ]
  go_wp2_with (first | (go_at_call 46; refine (abs_any _ _).mono ?_; rintro e w' ⟨rfl, rfl⟩; rw [(unhide Q0).abs]) | (go_at_call 45; refine (sqrt_any _ _ (unhide Q0).sqrt _).mono ?_; rintro e w' ⟨rfl, rfl⟩))
  refine wp_loop_rounds 1 ?_
  rw [rounds_succ]
  go_wp2
  rw [rounds_succ]
  go_wp2
  go_ret2
  exact ⟨rfl, _, rfl⟩

set_option maxRecDepth 100000 in
set_option maxHeartbeats 1000000 in
theorem sym2 (w : World) (d b : Nat) (f : Nat → Nat) (m : Mat w d 2 2 b f) (h1 : f 1 = 0) (h2 : f 2 = 0) :
    Calls Ybaf.prog 40 #[.pointer (some ⟨d, 0, none⟩)] w fun e w' => e = .returned (.tuple #[]) ∧ ∃ q, w' = w.drewN q := by
  have c0 := m.c0
  have c1 := m.c1
  have c2 := m.c2
  have e1 := m.data.cell (i := 1) (by omega)
  have e2 := m.data.cell (i := 2) (by omega)
  unfold fv at e1 e2
  rw [h1] at e1
  rw [h2] at e2
  have q0 : FloatKind.f64.format.order 0 0 = some .eq := eq00
  clear m h1 h2
  simp only [Nat.reduceMul] at c2
  go_enter Ybaf.func40, Ybaf.ntmps40
  go_wp2
  go_quiet (fail)
  go_wp2
  refine wp_loop_rounds 3 ?_
  rw [rounds_succ]
  go_wp2
  refine wp_loop_rounds 2 ?_
  rw [rounds_succ]
  go_wp2
  go_quiet (fail)
  go_wp2
  go_quiet (fail)
  go_wp2
  rw [rounds_succ]
  go_wp2
  rw [rounds_succ]
  go_wp2
  refine wp_loop_rounds 1 ?_
  rw [rounds_succ]
  go_wp2
  rw [rounds_succ]
  go_wp2
  go_end0
  exact ⟨rfl, _, rfl⟩

set_option maxRecDepth 100000 in
set_option maxHeartbeats 1000000 in
theorem sym1 (w : World) (d b : Nat) (f : Nat → Nat) (m : Mat w d 1 1 b f) :
    Calls Ybaf.prog 40 #[.pointer (some ⟨d, 0, none⟩)] w fun e w' => e = .returned (.tuple #[]) ∧ ∃ q, w' = w.drewN q := by
  have c0 := m.c0
  have c1 := m.c1
  clear m
  go_enter Ybaf.func40, Ybaf.ntmps40
  go_wp2
  go_quiet (fail)
  go_wp2
  refine wp_loop_rounds 2 ?_
  rw [rounds_succ]
  go_wp2
  refine wp_loop_rounds 1 ?_
  rw [rounds_succ]
  go_wp2
  rw [rounds_succ]
  go_wp2
  go_end0
  exact ⟨rfl, _, rfl⟩
end Go.Proofs.YbulkaotqFmt.Wk
