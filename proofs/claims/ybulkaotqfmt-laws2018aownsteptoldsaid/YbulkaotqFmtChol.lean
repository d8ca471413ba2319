/-
  'cholesky' (57), 'Cholesky' (50) at the scaled matrices of the check.
-/
import Derived.Test.YbulkaotqFmtPsd
import Derived.Test.YbulkaotqFmtMul
namespace Go.Proofs.YbulkaotqFmt.Wk
open Go.RowKit

theorem store_fl0 (P : Program) (w : World) (a : Addr) (m : Mode) (k : FloatKind) (v : Nat) : (store a (.float k v) m).run P w = stored P w a (.float k v) m := run_store P w a _ m rfl
attribute [local go_sem] store_fl0
theorem mul00 : Ieee.double.mul 0 0 = some 0 := by kernel_rfl
theorem add00 : Ieee.double.add 0 0 = some 0 := by kernel_rfl

theorem Mat.set {w : World} {d r c b : Nat} {f : Nat → Nat} (m : Mat w d r c b f) (k v : Nat) : Mat (w.setCell ⟨b, k, none⟩ (.float .f64 v)) d r c b (upd f k v) :=
  ⟨m.head.setOther (a := ⟨b, k, none⟩) m.ne _, fset m.data k v⟩

theorem row11 (w : World) (d b : Nat) (f : Nat → Nat) (m : Mat w d 1 1 b f) : Calls Ybaf.prog 26 #[.pointer (some ⟨d, 0, none⟩), .int .i64 0] w fun e w' => e = .returned (.slice (some ⟨b, 0, none⟩) 1 1) ∧ ∃ q, w' = w.drewN q := row_run w d 1 1 b f m ⟨.inl rfl, .inl rfl⟩ 0 (by omega)
theorem row22a (w : World) (d b : Nat) (f : Nat → Nat) (m : Mat w d 2 2 b f) : Calls Ybaf.prog 26 #[.pointer (some ⟨d, 0, none⟩), .int .i64 0] w fun e w' => e = .returned (.slice (some ⟨b, 0, none⟩) 2 4) ∧ ∃ q, w' = w.drewN q := row_run w d 2 2 b f m ⟨.inr rfl, .inr rfl⟩ 0 (by omega)
theorem row22b (w : World) (d b : Nat) (f : Nat → Nat) (m : Mat w d 2 2 b f) : Calls Ybaf.prog 26 #[.pointer (some ⟨d, 0, none⟩), .int .i64 1] w fun e w' => e = .returned (.slice (some ⟨b, 2, none⟩) 2 2) ∧ ∃ q, w' = w.drewN q := row_run w d 2 2 b f m ⟨.inr rfl, .inr rfl⟩ 1 (by omega)
/-- 'dot' of nothing. -/
theorem dot0 (w : World) (ba oa ca bb ob mb cb : Nat) (hmc : mb ≤ cb) (hcb : cb ≤ 1000) :
    Calls Ybaf.prog 43 #[.slice (some ⟨ba, oa, none⟩) 0 ca, .slice (some ⟨bb, ob, none⟩) mb cb] w fun e w' => e = .returned (.float .f64 0) ∧ w = w' :=
  dot_any w ba oa 0 ca bb ob mb cb (fun _ => 0) (fun _ => 0) (fun _ => 0) (by omega) (by omega) hmc hcb (fun i hi => by omega) (fun i hi => by omega) rfl (fun i hi => by omega)
/-- 'dot' of a zero with a zero. -/
theorem dot10 (w : World) (b o ca cb : Nat) (h : w.cell? ⟨b, o, none⟩ = some (.float .f64 0)) (hc : 1 ≤ cb) (hcb : cb ≤ 1000) :
    Calls Ybaf.prog 43 #[.slice (some ⟨b, o, none⟩) 1 ca, .slice (some ⟨b, o, none⟩) 1 cb] w fun e w' => e = .returned (.float .f64 0) ∧ w = w' :=
  dot_any w b o 1 ca b o 1 cb (fun _ => 0) (fun _ => 0) (fun _ => 0) (by omega) hc hc hcb (fun i hi => by rw [show o + i = o from by omega]; exact h) (fun i hi => by rw [show o + i = o from by omega]; exact h) rfl (fun i hi => ⟨0, mul00, add00⟩)

set_option maxRecDepth 100000 in
set_option maxHeartbeats 2000000 in
theorem chol1 (w : World) (d b : Nat) (f : Nat → Nat) (m : Mat w d 1 1 b f) (y z : Nat) (h0 : f 0 = y) (less : Ieee.double.sub y 0 = some y) (pos : Ieee.double.order y 0 = some .gt) (fin : (Ieee.double.order (absW y) maxF == some .gt) = false) (root : Ieee.double.sqrt y = some z) :
    Calls Ybaf.prog 57 #[.pointer (some ⟨d, 0, none⟩), .pointer (some ⟨d, 0, none⟩), .bool false] w fun e w' => e = .returned (.bool true) ∧ Fr [b] w w' ∧ w'.heap.size = w.heap.size := by
  have c0 := m.c0
  have c1 := m.c1
  have c2 := m.c2
  have e0 := m.data.cell (i := 0) (by omega)
  have f0 := m.data.frozen 0
  unfold fv at e0
  rw [h0] at e0
  simp only [Nat.reduceMul] at c2
  have hne : d ≠ b := m.ne
  have hne' : b ≠ d := Ne.symm hne
  have Hm := hide m
  have s1 := sub_run less
  have p1 : FloatKind.f64.format.order y 0 = some .gt := pos
  have Hfin := hide fin
  have Hroot := hide root
  clear m h0 less pos fin root
  go_enter Ybaf.func57, Ybaf.ntmps57
  go_wp2
  go_quiet (fail)
  go_wp2
  refine wp_loop_rounds 2 ?_
  rw [rounds_succ]
  go_wp2_with fail
  refine (row11 _ d b f (by exact ⟨(unhide Hm).head, (unhide Hm).data⟩)).mono ?_
  rintro e w2 ⟨rfl, q, rfl⟩
  go_wp2
  go_quiet ((go_at_call 43; exact (dot0 _ _ _ _ _ _ _ _ (by omega) (by omega)).mono fun e w' h => ⟨h.1, _, h.2.symm⟩))
  go_wp2_with (first | (go_at_call 58; refine (isInf_false _ (unhide Hfin) _).mono ?_; rintro e w' ⟨rfl, rfl⟩) | (go_at_call 45; refine (sqrt_any _ _ (unhide Hroot) _).mono ?_; rintro e w' ⟨rfl, rfl⟩))
  refine wp_loop_rounds 1 ?_
  rw [rounds_succ]
  go_wp2
  rw [rounds_succ]
  go_wp2
  go_ret
  refine ⟨rfl, ?_, by simp⟩
  first | exact ((Fr.refl [b] w).drewN _).setCell (.inl (by simp)) _ | exact ((Fr.refl [b] w).setCell (.inl (by simp)) _).drewN _

set_option maxRecDepth 100000 in
set_option maxHeartbeats 4000000 in
theorem chol2 (w : World) (d b : Nat) (f : Nat → Nat) (m : Mat w d 2 2 b f) (y z y3 z3 : Nat) (h0 : f 0 = y) (h2 : f 2 = 0) (h3 : f 3 = y3)
    (less : Ieee.double.sub y 0 = some y) (pos : Ieee.double.order y 0 = some .gt) (fin : (Ieee.double.order (absW y) maxF == some .gt) = false) (root : Ieee.double.sqrt y = some z) (z0 : Ieee.double.div 0 z = some 0)
    (less3 : Ieee.double.sub y3 0 = some y3) (pos3 : Ieee.double.order y3 0 = some .gt) (fin3 : (Ieee.double.order (absW y3) maxF == some .gt) = false) (root3 : Ieee.double.sqrt y3 = some z3) :
    Calls Ybaf.prog 57 #[.pointer (some ⟨d, 0, none⟩), .pointer (some ⟨d, 0, none⟩), .bool false] w fun e w' => e = .returned (.bool true) ∧ Fr [b] w w' ∧ w'.heap.size = w.heap.size := by
  have c0 := m.c0
  have c1 := m.c1
  have c2 := m.c2
  have e0 := m.data.cell (i := 0) (by omega)
  have e2 := m.data.cell (i := 2) (by omega)
  have e3 := m.data.cell (i := 3) (by omega)
  have f0 := m.data.frozen 0
  have f2 := m.data.frozen 2
  have f3 := m.data.frozen 3
  unfold fv at e0 e2 e3
  rw [h0] at e0
  rw [h2] at e2
  rw [h3] at e3
  simp only [Nat.reduceMul] at c2
  have hne : d ≠ b := m.ne
  have hne' : b ≠ d := Ne.symm hne
  have Hm := hide m
  have s1 := sub_run less
  have s3 := sub_run less3
  have s0 := sub_run sub00
  have dv0 := div_run z0
  have p1 : FloatKind.f64.format.order y 0 = some .gt := pos
  have p3 : FloatKind.f64.format.order y3 0 = some .gt := pos3
  have Hfin := hide fin
  have Hroot := hide root
  have Hfin3 := hide fin3
  have Hroot3 := hide root3
  have HM1 := hide (m.set 0 z)
  have HM2 := hide ((m.set 0 z).set 2 0)
  have hk2 : ∀ q, ((w.drewN q).setCell ⟨b, 0, none⟩ (.float .f64 z)).cell? ⟨b, 2, none⟩ = some (.float .f64 0) := fun q => (World.cell?_setCell_other _ _ _ _ (by simp)).trans e2
  have hk3 : ∀ q q', ((((w.drewN q).setCell ⟨b, 0, none⟩ (.float .f64 z)).drewN q').setCell ⟨b, 2, none⟩ (.float .f64 0)).cell? ⟨b, 2, none⟩ = some (.float .f64 0) := fun q q' => World.cell?_setCell_same _ _ _ (hk2 q)
  have hk4 : ∀ q q', ((((w.drewN q).setCell ⟨b, 0, none⟩ (.float .f64 z)).drewN q').setCell ⟨b, 2, none⟩ (.float .f64 0)).cell? ⟨b, 3, none⟩ = some (.float .f64 y3) := fun q q' => (World.cell?_setCell_other _ _ _ _ (by simp)).trans ((World.cell?_setCell_other _ _ _ _ (by simp)).trans e3)
  have hw0 : IntKind.i64.wrap 0 = 0 := by decide
  have hw1 : IntKind.i64.wrap 1 = 1 := by decide
  have hw2 : IntKind.i64.wrap 2 = 2 := by decide
  have hw3 : IntKind.i64.wrap 3 = 3 := by decide
  clear m h0 h2 h3 less pos fin root less3 pos3 fin3 root3 z0
  go_enter Ybaf.func57, Ybaf.ntmps57
  go_wp2
  go_quiet (fail)
  go_wp2
  refine wp_loop_rounds 3 ?_
  rw [rounds_succ]
  go_wp2_with fail
  refine (row22a _ d b f (by exact ⟨(unhide Hm).head, (unhide Hm).data⟩)).mono ?_
  rintro e w2 ⟨rfl, q, rfl⟩
  go_wp2
  go_quiet ((go_at_call 43; exact (dot0 _ _ _ _ _ _ _ _ (by omega) (by omega)).mono fun e w' h => ⟨h.1, _, h.2.symm⟩))
  go_wp2_with (first | (go_at_call 58; refine (isInf_false _ (unhide Hfin) _).mono ?_; rintro e w' ⟨rfl, rfl⟩) | (go_at_call 45; refine (sqrt_any _ _ (unhide Hroot) _).mono ?_; rintro e w' ⟨rfl, rfl⟩))
  refine wp_loop_rounds 2 ?_
  rw [rounds_succ]
  go_wp2_with fail
  refine (row22b _ d b _ (by exact ⟨(unhide HM1).head, (unhide HM1).data⟩)).mono ?_
  rintro e w3 ⟨rfl, q2, rfl⟩
  go_wp2
  go_region_held3 (fun W => W.cell? ⟨d, 1, none⟩ = some (.int .i64 2) ∧ W.cell? ⟨d, 2, none⟩ = some (.slice (some ⟨b, 0, none⟩) 4 4) ∧ W.cell? ⟨b, 2, none⟩ = some (.float .f64 0) ∧ W.frozen? ⟨b, 2, none⟩ = false) (go_keep) (first | (go_at_call 43; refine (dot0 _ _ _ _ _ _ _ _ (by omega) (by omega)).mono ?_; rintro e w' ⟨rfl, rfl⟩))
  go_wp2
  rw [rounds_succ]
  go_wp2
  rw [rounds_succ]
  go_wp2_with fail
  refine (row22b _ d b _ (by exact ⟨(unhide HM2).head, (unhide HM2).data⟩)).mono ?_
  rintro e w4 ⟨rfl, q3, rfl⟩
  go_wp2
  go_quiet ((go_at_call 43; exact (dot10 _ b 2 _ _ (by simp [hk3]) (by omega) (by omega)).mono fun e w' h => ⟨h.1, _, h.2.symm⟩))
  go_wp2_with (first | (go_at_call 58; refine (isInf_false _ (unhide Hfin3) _).mono ?_; rintro e w' ⟨rfl, rfl⟩) | (go_at_call 45; refine (sqrt_any _ _ (unhide Hroot3) _).mono ?_; rintro e w' ⟨rfl, rfl⟩))
  refine wp_loop_rounds 1 ?_
  rw [rounds_succ]
  go_wp2
  rw [rounds_succ]
  go_wp2
  go_ret
  exact ⟨rfl, ((((((Fr.refl [b] w).drewN _).setCell (.inl (by simp)) _).drewN _).setCell (.inl (by simp)) _).drewN _).setCell (.inl (by simp)) _, by simp⟩

set_option maxHeartbeats 400000 in
theorem cholesky1 (w : World) (d b : Nat) (f : Nat → Nat) (m : Mat w d 1 1 b f) (y z : Nat) (h0 : f 0 = y) (less : Ieee.double.sub y 0 = some y) (pos : Ieee.double.order y 0 = some .gt) (fin : (Ieee.double.order (absW y) maxF == some .gt) = false) (root : Ieee.double.sqrt y = some z) :
    Calls Ybaf.prog 50 #[.pointer (some ⟨d, 0, none⟩), .pointer (some ⟨d, 0, none⟩)] w fun e w' => e = .returned (.bool true) ∧ Fr [b] w w' ∧ w'.heap.size = w.heap.size := by
  have H := hide (chol1 w d b f m y z h0 less pos fin root)
  clear m h0 less pos fin root
  go_enter Ybaf.func50, Ybaf.ntmps50
  go_wp2_with (go_at_call 57; refine (unhide H).mono ?_; rintro e w' ⟨rfl, hfr, hsz⟩; have Hfr := hide hfr; have Hsz := hide hsz; clear hfr hsz)
  go_ret
  exact ⟨rfl, unhide Hfr, unhide Hsz⟩

set_option maxHeartbeats 400000 in
theorem cholesky2 (w : World) (d b : Nat) (f : Nat → Nat) (m : Mat w d 2 2 b f) (y z y3 z3 : Nat) (h0 : f 0 = y) (h2 : f 2 = 0) (h3 : f 3 = y3)
    (less : Ieee.double.sub y 0 = some y) (pos : Ieee.double.order y 0 = some .gt) (fin : (Ieee.double.order (absW y) maxF == some .gt) = false) (root : Ieee.double.sqrt y = some z) (z0 : Ieee.double.div 0 z = some 0)
    (less3 : Ieee.double.sub y3 0 = some y3) (pos3 : Ieee.double.order y3 0 = some .gt) (fin3 : (Ieee.double.order (absW y3) maxF == some .gt) = false) (root3 : Ieee.double.sqrt y3 = some z3) :
    Calls Ybaf.prog 50 #[.pointer (some ⟨d, 0, none⟩), .pointer (some ⟨d, 0, none⟩)] w fun e w' => e = .returned (.bool true) ∧ Fr [b] w w' ∧ w'.heap.size = w.heap.size := by
  have H := hide (chol2 w d b f m y z y3 z3 h0 h2 h3 less pos fin root z0 less3 pos3 fin3 root3)
  clear m h0 h2 h3 less pos fin root z0 less3 pos3 fin3 root3
  go_enter Ybaf.func50, Ybaf.ntmps50
  go_wp2_with (go_at_call 57; refine (unhide H).mono ?_; rintro e w' ⟨rfl, hfr, hsz⟩; have Hfr := hide hfr; have Hsz := hide hsz; clear hfr hsz)
  go_ret
  exact ⟨rfl, unhide Hfr, unhide Hsz⟩
end Go.Proofs.YbulkaotqFmt.Wk
