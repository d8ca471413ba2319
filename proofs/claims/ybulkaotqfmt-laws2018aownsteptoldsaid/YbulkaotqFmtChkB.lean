/-
  'checkModel' (12) of a model of fixed matrices, with a control matrix.
-/
import Derived.Test.YbulkaotqFmtChkM
namespace Go.Proofs.YbulkaotqFmt.Wk
open Go.RowKit Fl

set_option maxRecDepth 100000 in
set_option maxHeartbeats 4000000 in
theorem chk_b (w : World) (oF oH oQ oR : Nat) (rF rH rQ rR : Nat → Nat) (fF fH fQ fR : Nat → Nat → Nat) (oB : Nat) (rB : Nat → Nat) (fB : Nat → Nat → Nat)
    (hin : MIn w oF oH oQ oR rF rH rQ rR fF fH fQ fR) (hB : RowsIn w oB 2 1 rB fB) (hBf : ∀ i, i < 2 → ∀ j, j < 1 → Fin1 (fB i j)) :
    Calls Ybaf.prog 12 #[.agg (mval oF (.slice (some ⟨oB, 0, none⟩) 2 2) oH oQ oR .nilIface (.float .f64 0))] w fun e w' => e = .returned (.tuple #[.agg #[.pointer (some ⟨w.heap.size + 4, 0, none⟩), .pointer (some ⟨w.heap.size + 16, 0, none⟩), .pointer (some ⟨w.heap.size + 6, 0, none⟩), .pointer (some ⟨w.heap.size + 8, 0, none⟩), .pointer (some ⟨w.heap.size + 12, 0, none⟩), .pointer none], .nilIface]) ∧ Fr [] w w' ∧ w.heap.size + 17 ≤ w'.heap.size ∧ Mat w' (w.heap.size + 4) 2 2 (w.heap.size + 3) (flat 2 fF) ∧ Mat w' (w.heap.size + 8) 2 2 (w.heap.size + 7) (flat 2 fQ) ∧ Mat w' (w.heap.size + 16) 2 1 (w.heap.size + 15) (flat 1 fB) := by
  have HB := hide (And.intro hB hBf)
  clear hB hBf
  have Hin := hide hin
  have hn := neq_nil35
  have hn30 := neq_nil30
  clear hin
  unfold mval
  go_enter Ybaf.func12, Ybaf.ntmps12
  go_wp2
  have rm := hide ((mbox w oF (.slice (some ⟨oB, 0, none⟩) 2 2) oH oQ oR .nilIface (.float .f64 0)).alloc (.cells #[.pointer none, .pointer none, .pointer none, .pointer none, .pointer none, .pointer none] 44))
  have rr := hide (c6_alloc (w.alloc (.cells (mval oF (.slice (some ⟨oB, 0, none⟩) 2 2) oH oQ oR .nilIface (.float .f64 0)) 32)))
  have fr := hide (((Fr.refl [] w).alloc (.cells (mval oF (.slice (some ⟨oB, 0, none⟩) 2 2) oH oQ oR .nilIface (.float .f64 0)) 32)).alloc (.cells #[.pointer none, .pointer none, .pointer none, .pointer none, .pointer none, .pointer none] 44))
  have sz : ((w.alloc (.cells (mval oF (.slice (some ⟨oB, 0, none⟩) 2 2) oH oQ oR .nilIface (.float .f64 0)) 32)).alloc (.cells #[.pointer none, .pointer none, .pointer none, .pointer none, .pointer none, .pointer none] 44)).heap.size = w.heap.size + 2 := by simp
  rw [size_al] at rr
  unfold mval at rm rr fr sz
  generalize (w.alloc (.cells #[.slice (some ⟨oF, 0, none⟩) 2 2, (.slice (some ⟨oB, 0, none⟩) 2 2), .slice (some ⟨oH, 0, none⟩) 1 1, .slice (some ⟨oQ, 0, none⟩) 2 2, .slice (some ⟨oR, 0, none⟩) 1 1, .nilIface, (.float .f64 0)] 32)).alloc (.cells #[.pointer none, .pointer none, .pointer none, .pointer none, .pointer none, .pointer none] 44) = W0 at *
  have c0 : W0.cell? ⟨w.heap.size, 0, none⟩ = some (.slice (some ⟨oF, 0, none⟩) 2 2) := (unhide rm).cell (i := 0) (by omega)
  have c2 : W0.cell? ⟨w.heap.size, 2, none⟩ = some (.slice (some ⟨oH, 0, none⟩) 1 1) := (unhide rm).cell (i := 2) (by omega)
  go_quiet (fail)
  go_wp2_with fail
  have rm1 := hide (World.rowIs.alloc (w := W0.drewN nq) (unhide rm) (.cells #[.pointer none, .pointer none, .pointer none, .pointer none, .pointer none, .pointer none] 44))
  have rr1 := hide (World.rowIs.alloc (w := W0.drewN nq) (unhide rr) (.cells #[.pointer none, .pointer none, .pointer none, .pointer none, .pointer none, .pointer none] 44))
  have rc1 : Hid ((((W0.drewN nq).alloc (.cells #[.pointer none, .pointer none, .pointer none, .pointer none, .pointer none, .pointer none] 44))).rowIs W0.heap.size 44 6 (c6 none none none none none none)) := hide (c6_alloc (W0.drewN nq))
  have fr1 := hide (((unhide fr).drewN nq).alloc (.cells #[.pointer none, .pointer none, .pointer none, .pointer none, .pointer none, .pointer none] 44))
  have sz1 : ((W0.drewN nq).alloc (.cells #[.pointer none, .pointer none, .pointer none, .pointer none, .pointer none, .pointer none] 44)).heap.size = w.heap.size + 3 := by rw [size_al]; exact congrArg (· + 1) sz
  rw [sz] at rc1
  try simp only [sz]
  clear c0 c2 rm rr fr
  generalize (W0.drewN nq).alloc (.cells #[.pointer none, .pointer none, .pointer none, .pointer none, .pointer none, .pointer none] 44) = W1 at *
  clear sz
  have HM1 := hide ((unhide Hin).mv (unhide fr1))
  have hc := matrix_any W1 ⟨#[70]⟩ oF 2 2 rF fF ⟨.inr rfl, .inr rfl⟩ (unhide HM1).f (unhide HM1).ff
  simp only [sz1, Nat.add_assoc, Nat.reduceAdd] at hc
  refine hc.mono ?_
  rintro e v1 ⟨rfl, m1, f1, s1⟩
  clear hc
  have rm_1 := hide (f1.row (unhide rm1) (by simp))
  have rr_1 := hide (f1.row (unhide rr1) (by simp))
  have rc_1 := hide (f1.row (unhide rc1) (by simp))
  have fr_1 := hide ((unhide fr1).trans f1)
  have k2 : v1.cell? ⟨w.heap.size, 2, none⟩ = some (.slice (some ⟨oH, 0, none⟩) 1 1) := (unhide rm_1).cell (i := 2) (by omega)
  have cc : v1.cell? ⟨w.heap.size + 2, 0, none⟩ = some (.pointer none) := (unhide rc_1).cell (i := 0) (by omega)
  have cf := (unhide rc_1).frozen 0
  have Hm1 := hide m1
  have Hf1 := hide f1
  clear m1 f1 rm1 rr1 rc1 fr1 sz1 HM1
  go_wp2_with fail
  have rm2 := hide ((unhide rm_1).setOther (a := ⟨w.heap.size + 2, 0, none⟩) (by simp) (.pointer (some ⟨w.heap.size + 4, 0, none⟩)))
  have rr2 := hide ((unhide rr_1).setOther (a := ⟨w.heap.size + 2, 0, none⟩) (by simp) (.pointer (some ⟨w.heap.size + 4, 0, none⟩)))
  have rc2 : Hid (World.rowIs (v1.setCell ⟨w.heap.size + 2, 0, none⟩ (.pointer (some ⟨w.heap.size + 4, 0, none⟩))) (w.heap.size + 2) 44 6 (c6 (some ⟨w.heap.size + 4, 0, none⟩) none none none none none)) := hide (((unhide rc_1).set 0 (.pointer (some ⟨w.heap.size + 4, 0, none⟩))).congr (by
    intro i hi
    match i, hi with
    | 0, _ => rfl
    | 1, _ => rfl
    | 2, _ => rfl
    | 3, _ => rfl
    | 4, _ => rfl
    | 5, _ => rfl
    | i + 6, h => exact absurd h (by simp)))
  have fr2 := hide ((unhide fr_1).setCell (p := ⟨w.heap.size + 2, 0, none⟩) (.inr (by simp)) (.pointer (some ⟨w.heap.size + 4, 0, none⟩)))
  have sz2 : (v1.setCell ⟨w.heap.size + 2, 0, none⟩ (.pointer (some ⟨w.heap.size + 4, 0, none⟩))).heap.size = w.heap.size + 5 := by rw [show (v1.setCell ⟨w.heap.size + 2, 0, none⟩ (.pointer (some ⟨w.heap.size + 4, 0, none⟩))).heap.size = v1.heap.size from by simp]; exact s1
  have G1 : Hid (Fr [w.heap.size + 2] v1 (v1.setCell ⟨w.heap.size + 2, 0, none⟩ (.pointer (some ⟨w.heap.size + 4, 0, none⟩)))) := hide ((Fr.refl [w.heap.size + 2] v1).setCell (p := ⟨w.heap.size + 2, 0, none⟩) (.inl (by simp)) (.pointer (some ⟨w.heap.size + 4, 0, none⟩)))
  clear k2 cc cf s1 rm_1 rr_1 rc_1 fr_1
  generalize (v1.setCell ⟨w.heap.size + 2, 0, none⟩ (.pointer (some ⟨w.heap.size + 4, 0, none⟩))) = W2 at *
  have HM2 := hide ((unhide Hin).mv (unhide fr2))
  have hc := matrix_any W2 ⟨#[72]⟩ oH 1 2 rH fH ⟨.inl rfl, .inr rfl⟩ (unhide HM2).h (unhide HM2).fh
  simp only [sz2, Nat.add_assoc, Nat.reduceAdd] at hc
  refine hc.mono ?_
  rintro e v2 ⟨rfl, m2, f2, s2⟩
  clear hc
  have rm_2 := hide (f2.row (unhide rm2) (by simp))
  have rr_2 := hide (f2.row (unhide rr2) (by simp))
  have rc_2 := hide (f2.row (unhide rc2) (by simp))
  have fr_2 := hide ((unhide fr2).trans f2)
  have k3 : v2.cell? ⟨w.heap.size, 3, none⟩ = some (.slice (some ⟨oQ, 0, none⟩) 2 2) := (unhide rm_2).cell (i := 3) (by omega)
  have cc : v2.cell? ⟨w.heap.size + 2, 2, none⟩ = some (.pointer none) := (unhide rc_2).cell (i := 2) (by omega)
  have cf := (unhide rc_2).frozen 2
  have Hm2 := hide m2
  have Hf2 := hide f2
  clear m2 f2 rm2 rr2 rc2 fr2 sz2 HM2
  go_wp2_with fail
  have rm3 := hide ((unhide rm_2).setOther (a := ⟨w.heap.size + 2, 2, none⟩) (by simp) (.pointer (some ⟨w.heap.size + 6, 0, none⟩)))
  have rr3 := hide ((unhide rr_2).setOther (a := ⟨w.heap.size + 2, 2, none⟩) (by simp) (.pointer (some ⟨w.heap.size + 6, 0, none⟩)))
  have rc3 : Hid (World.rowIs (v2.setCell ⟨w.heap.size + 2, 2, none⟩ (.pointer (some ⟨w.heap.size + 6, 0, none⟩))) (w.heap.size + 2) 44 6 (c6 (some ⟨w.heap.size + 4, 0, none⟩) none (some ⟨w.heap.size + 6, 0, none⟩) none none none)) := hide (((unhide rc_2).set 2 (.pointer (some ⟨w.heap.size + 6, 0, none⟩))).congr (by
    intro i hi
    match i, hi with
    | 0, _ => rfl
    | 1, _ => rfl
    | 2, _ => rfl
    | 3, _ => rfl
    | 4, _ => rfl
    | 5, _ => rfl
    | i + 6, h => exact absurd h (by simp)))
  have fr3 := hide ((unhide fr_2).setCell (p := ⟨w.heap.size + 2, 2, none⟩) (.inr (by simp)) (.pointer (some ⟨w.heap.size + 6, 0, none⟩)))
  have sz3 : (v2.setCell ⟨w.heap.size + 2, 2, none⟩ (.pointer (some ⟨w.heap.size + 6, 0, none⟩))).heap.size = w.heap.size + 7 := by rw [show (v2.setCell ⟨w.heap.size + 2, 2, none⟩ (.pointer (some ⟨w.heap.size + 6, 0, none⟩))).heap.size = v2.heap.size from by simp]; exact s2
  have G2 : Hid (Fr [w.heap.size + 2] v2 (v2.setCell ⟨w.heap.size + 2, 2, none⟩ (.pointer (some ⟨w.heap.size + 6, 0, none⟩)))) := hide ((Fr.refl [w.heap.size + 2] v2).setCell (p := ⟨w.heap.size + 2, 2, none⟩) (.inl (by simp)) (.pointer (some ⟨w.heap.size + 6, 0, none⟩)))
  clear k3 cc cf s2 rm_2 rr_2 rc_2 fr_2
  generalize (v2.setCell ⟨w.heap.size + 2, 2, none⟩ (.pointer (some ⟨w.heap.size + 6, 0, none⟩))) = W3 at *
  have HM3 := hide ((unhide Hin).mv (unhide fr3))
  have hc := cov_any W3 ⟨#[81]⟩ oQ 2 rQ fQ (unhide HM3).q (unhide HM3).fq (unhide HM3).dq
  simp only [sz3, Nat.add_assoc, Nat.reduceAdd] at hc
  refine hc.mono ?_
  rintro e v3 ⟨rfl, m3, f3, s3⟩
  clear hc
  have rm_3 := hide (f3.row (unhide rm3) (by simp))
  have rr_3 := hide (f3.row (unhide rr3) (by simp))
  have rc_3 := hide (f3.row (unhide rc3) (by simp))
  have fr_3 := hide ((unhide fr3).trans f3)
  have k4 : v3.cell? ⟨w.heap.size, 4, none⟩ = some (.slice (some ⟨oR, 0, none⟩) 1 1) := (unhide rm_3).cell (i := 4) (by omega)
  have cc : v3.cell? ⟨w.heap.size + 2, 3, none⟩ = some (.pointer none) := (unhide rc_3).cell (i := 3) (by omega)
  have cf := (unhide rc_3).frozen 3
  have Hm3 := hide m3
  have Hf3 := hide f3
  clear m3 f3 rm3 rr3 rc3 fr3 sz3 HM3
  go_wp2_with fail
  have rm4 := hide ((unhide rm_3).setOther (a := ⟨w.heap.size + 2, 3, none⟩) (by simp) (.pointer (some ⟨w.heap.size + 8, 0, none⟩)))
  have rr4 := hide ((unhide rr_3).setOther (a := ⟨w.heap.size + 2, 3, none⟩) (by simp) (.pointer (some ⟨w.heap.size + 8, 0, none⟩)))
  have rc4 : Hid (World.rowIs (v3.setCell ⟨w.heap.size + 2, 3, none⟩ (.pointer (some ⟨w.heap.size + 8, 0, none⟩))) (w.heap.size + 2) 44 6 (c6 (some ⟨w.heap.size + 4, 0, none⟩) none (some ⟨w.heap.size + 6, 0, none⟩) (some ⟨w.heap.size + 8, 0, none⟩) none none)) := hide (((unhide rc_3).set 3 (.pointer (some ⟨w.heap.size + 8, 0, none⟩))).congr (by
    intro i hi
    match i, hi with
    | 0, _ => rfl
    | 1, _ => rfl
    | 2, _ => rfl
    | 3, _ => rfl
    | 4, _ => rfl
    | 5, _ => rfl
    | i + 6, h => exact absurd h (by simp)))
  have fr4 := hide ((unhide fr_3).setCell (p := ⟨w.heap.size + 2, 3, none⟩) (.inr (by simp)) (.pointer (some ⟨w.heap.size + 8, 0, none⟩)))
  have sz4 : (v3.setCell ⟨w.heap.size + 2, 3, none⟩ (.pointer (some ⟨w.heap.size + 8, 0, none⟩))).heap.size = w.heap.size + 11 := by rw [show (v3.setCell ⟨w.heap.size + 2, 3, none⟩ (.pointer (some ⟨w.heap.size + 8, 0, none⟩))).heap.size = v3.heap.size from by simp]; exact s3
  have G3 : Hid (Fr [w.heap.size + 2] v3 (v3.setCell ⟨w.heap.size + 2, 3, none⟩ (.pointer (some ⟨w.heap.size + 8, 0, none⟩)))) := hide ((Fr.refl [w.heap.size + 2] v3).setCell (p := ⟨w.heap.size + 2, 3, none⟩) (.inl (by simp)) (.pointer (some ⟨w.heap.size + 8, 0, none⟩)))
  clear k4 cc cf s3 rm_3 rr_3 rc_3 fr_3
  generalize (v3.setCell ⟨w.heap.size + 2, 3, none⟩ (.pointer (some ⟨w.heap.size + 8, 0, none⟩))) = W4 at *
  have HM4 := hide ((unhide Hin).mv (unhide fr4))
  have hc := cov_any W4 ⟨#[82]⟩ oR 1 rR fR (unhide HM4).r (unhide HM4).fr (unhide HM4).dr
  simp only [sz4, Nat.add_assoc, Nat.reduceAdd] at hc
  refine hc.mono ?_
  rintro e v4 ⟨rfl, m4, f4, s4⟩
  clear hc
  have rm_4 := hide (f4.row (unhide rm4) (by simp))
  have rr_4 := hide (f4.row (unhide rr4) (by simp))
  have rc_4 := hide (f4.row (unhide rc4) (by simp))
  have fr_4 := hide ((unhide fr4).trans f4)
  have k1 : v4.cell? ⟨w.heap.size, 1, none⟩ = some (.slice (some ⟨oB, 0, none⟩) 2 2) := (unhide rm_4).cell (i := 1) (by omega)
  have k5 : v4.cell? ⟨w.heap.size, 5, none⟩ = some .nilIface := (unhide rm_4).cell (i := 5) (by omega)
  have g3 : Fr [w.heap.size + 2] v3 v4 := (unhide G3).trans (f4.mono (by simp))
  have g1 : Fr [w.heap.size + 2] v1 v4 := (unhide G1).trans (((unhide Hf2).mono (by simp)).trans ((unhide G2).trans (((unhide Hf3).mono (by simp)).trans g3)))
  have nn : ∀ k, k ≠ w.heap.size + 2 → k ∉ [w.heap.size + 2] := fun k h => by simpa using h
  have mcf := hide ((unhide Hm1).fr g1 (nn _ (by omega)) (nn _ (by omega)))
  have mcq := hide ((unhide Hm3).fr g3 (nn _ (by omega)) (nn _ (by omega)))
  clear g1 g3 nn
  have n0 : v4.cell? ⟨w.heap.size + 2, 0, none⟩ = some (.pointer (some ⟨w.heap.size + 4, 0, none⟩)) := (unhide rc_4).cell (i := 0) (by omega)
  have r0 : v4.cell? ⟨w.heap.size + 1, 0, none⟩ = some (.pointer none) := (unhide rr_4).cell (i := 0) (by omega)
  have y0 := (unhide rr_4).frozen 0
  have n1 : v4.cell? ⟨w.heap.size + 2, 1, none⟩ = some (.pointer none) := (unhide rc_4).cell (i := 1) (by omega)
  have r1 : v4.cell? ⟨w.heap.size + 1, 1, none⟩ = some (.pointer none) := (unhide rr_4).cell (i := 1) (by omega)
  have y1 := (unhide rr_4).frozen 1
  have n2 : v4.cell? ⟨w.heap.size + 2, 2, none⟩ = some (.pointer (some ⟨w.heap.size + 6, 0, none⟩)) := (unhide rc_4).cell (i := 2) (by omega)
  have r2 : v4.cell? ⟨w.heap.size + 1, 2, none⟩ = some (.pointer none) := (unhide rr_4).cell (i := 2) (by omega)
  have y2 := (unhide rr_4).frozen 2
  have n3 : v4.cell? ⟨w.heap.size + 2, 3, none⟩ = some (.pointer (some ⟨w.heap.size + 8, 0, none⟩)) := (unhide rc_4).cell (i := 3) (by omega)
  have r3 : v4.cell? ⟨w.heap.size + 1, 3, none⟩ = some (.pointer none) := (unhide rr_4).cell (i := 3) (by omega)
  have y3 := (unhide rr_4).frozen 3
  have n4 : v4.cell? ⟨w.heap.size + 2, 4, none⟩ = some (.pointer none) := (unhide rc_4).cell (i := 4) (by omega)
  have r4 : v4.cell? ⟨w.heap.size + 1, 4, none⟩ = some (.pointer none) := (unhide rr_4).cell (i := 4) (by omega)
  have y4 := (unhide rr_4).frozen 4
  have n5 : v4.cell? ⟨w.heap.size + 2, 5, none⟩ = some (.pointer none) := (unhide rc_4).cell (i := 5) (by omega)
  have r5 : v4.cell? ⟨w.heap.size + 1, 5, none⟩ = some (.pointer none) := (unhide rr_4).cell (i := 5) (by omega)
  have y5 := (unhide rr_4).frozen 5
  have z4 := (unhide rc_4).frozen 4
  have b0 : v4.cell? ⟨oB, 0, none⟩ = some (.slice (some ⟨rB 0, 0, none⟩) 1 1) := ((unhide fr_4).row (unhide HB).1.outer (by simp)).cell (i := 0) (by omega)
  have lB := (unhide HB).1.outer.lt
  have e1 : oB ≠ w.heap.size + 2 := by omega
  have e1' := Ne.symm e1
  have Hm4 := hide m4
  clear Hm1 Hm2 Hm3 m4 f4 rm4 rr4 rc4 fr4 sz4 HM4 G1 G2 G3 Hf1 Hf2 Hf3
  go_wp2
  have rc5 : Hid (World.rowIs (v4.setCell ⟨w.heap.size + 2, 4, none⟩ (.pointer (some ⟨w.heap.size + 12, 0, none⟩))) (w.heap.size + 2) 44 6 (c6 (some ⟨w.heap.size + 4, 0, none⟩) none (some ⟨w.heap.size + 6, 0, none⟩) (some ⟨w.heap.size + 8, 0, none⟩) (some ⟨w.heap.size + 12, 0, none⟩) none)) := hide (((unhide rc_4).set 4 _).congr (by
    intro i hi
    match i, hi with
    | 0, _ => rfl
    | 1, _ => rfl
    | 2, _ => rfl
    | 3, _ => rfl
    | 4, _ => rfl
    | 5, _ => rfl
    | i + 6, h => exact absurd h (by simp)))
  have rm5 := hide ((unhide rm_4).setOther (a := ⟨w.heap.size + 2, 4, none⟩) (by simp) (.pointer (some ⟨w.heap.size + 12, 0, none⟩)))
  have rr5 := hide ((unhide rr_4).setOther (a := ⟨w.heap.size + 2, 4, none⟩) (by simp) (.pointer (some ⟨w.heap.size + 12, 0, none⟩)))
  have fr5 := hide ((unhide fr_4).setCell (p := ⟨w.heap.size + 2, 4, none⟩) (.inr (by simp)) (.pointer (some ⟨w.heap.size + 12, 0, none⟩)))
  have G4 : Hid (Fr [w.heap.size + 2] v4 (v4.setCell ⟨w.heap.size + 2, 4, none⟩ (.pointer (some ⟨w.heap.size + 12, 0, none⟩)))) := hide ((Fr.refl [w.heap.size + 2] v4).setCell (p := ⟨w.heap.size + 2, 4, none⟩) (.inl (by simp)) (.pointer (some ⟨w.heap.size + 12, 0, none⟩)))
  have s5 : (v4.setCell ⟨w.heap.size + 2, 4, none⟩ (.pointer (some ⟨w.heap.size + 12, 0, none⟩))).heap.size = w.heap.size + 15 := by rw [show (v4.setCell ⟨w.heap.size + 2, 4, none⟩ (.pointer (some ⟨w.heap.size + 12, 0, none⟩))).heap.size = v4.heap.size from by simp]; exact s4
  have Hs5 := hide s5
  clear s4 s5 k1 k5 n0 n1 n2 n3 n4 n5 r0 r1 r2 r3 r4 r5 y0 y1 y2 y3 y4 y5 z4 b0 rm_4 rr_4 rc_4 fr_4
  generalize v4.setCell ⟨w.heap.size + 2, 4, none⟩ (.pointer (some ⟨w.heap.size + 12, 0, none⟩)) = W5 at *
  have k1 : W5.cell? ⟨w.heap.size, 1, none⟩ = some (.slice (some ⟨oB, 0, none⟩) 2 2) := (unhide rm5).cell (i := 1) (by omega)
  have b0 : W5.cell? ⟨oB, 0, none⟩ = some (.slice (some ⟨rB 0, 0, none⟩) 1 1) := ((unhide fr5).row (unhide HB).1.outer (by simp)).cell (i := 0) (by omega)
  have n1 : W5.cell? ⟨w.heap.size + 2, 1, none⟩ = some (.pointer none) := (unhide rc5).cell (i := 1) (by omega)
  have hc := matrix_any W5.drew ⟨#[66]⟩ oB 2 1 rB fB ⟨.inr rfl, .inl rfl⟩ ((unhide HB).1.fr (unhide fr5).drew (by simp) (by simp)) (unhide HB).2
  have e5 : W5.drew.heap.size = w.heap.size + 15 := unhide Hs5
  simp only [e5, Nat.add_assoc, Nat.reduceAdd] at hc
  have HC := hide hc
  clear hc e5
  go_region_held3 (fun W => W.cell? ⟨w.heap.size, 1, none⟩ = some (.slice (some ⟨oB, 0, none⟩) 2 2) ∧ W.cell? ⟨oB, 0, none⟩ = some (.slice (some ⟨rB 0, 0, none⟩) 1 1)) (go_keep) (first | (go_at_call 27; refine (unhide HC).mono ?_; rintro e v6 ⟨rfl, m6, f6, s6⟩; have rc6 := Fr.row (w := W5.drew) f6 (unhide rc5) (by simp); have rm6 := Fr.row (w := W5.drew) f6 (unhide rm5) (by simp); have q1 : v6.cell? ⟨w.heap.size, 1, none⟩ = some (.slice (some ⟨oB, 0, none⟩) 2 2) := rm6.cell (i := 1) (by omega); have q2 : v6.cell? ⟨oB, 0, none⟩ = some (.slice (some ⟨rB 0, 0, none⟩) 1 1) := (((unhide fr5).drew.trans f6).row (unhide HB).1.outer (by simp)).cell (i := 0) (by omega); have q3 : v6.cell? ⟨w.heap.size + 2, 1, none⟩ = some (.pointer none) := rc6.cell (i := 1) (by omega); have q4 := rc6.frozen 1))
  have rc7 : Hid (World.rowIs (v6.setCell ⟨w.heap.size + 2, 1, none⟩ (.pointer (some ⟨w.heap.size + 16, 0, none⟩))) (w.heap.size + 2) 44 6 (c6 (some ⟨w.heap.size + 4, 0, none⟩) (some ⟨w.heap.size + 16, 0, none⟩) (some ⟨w.heap.size + 6, 0, none⟩) (some ⟨w.heap.size + 8, 0, none⟩) (some ⟨w.heap.size + 12, 0, none⟩) none)) := hide ((rc6.set 1 _).congr (by
    intro i hi
    match i, hi with
    | 0, _ => rfl
    | 1, _ => rfl
    | 2, _ => rfl
    | 3, _ => rfl
    | 4, _ => rfl
    | 5, _ => rfl
    | i + 6, h => exact absurd h (by simp)))
  have rm7 := hide (rm6.setOther (a := ⟨w.heap.size + 2, 1, none⟩) (by simp) (.pointer (some ⟨w.heap.size + 16, 0, none⟩)))
  have rr7 := hide ((Fr.row (w := W5.drew) f6 (unhide rr5) (by simp)).setOther (a := ⟨w.heap.size + 2, 1, none⟩) (by simp) (.pointer (some ⟨w.heap.size + 16, 0, none⟩)))
  have G6 : Hid (Fr [w.heap.size + 2] v6 (v6.setCell ⟨w.heap.size + 2, 1, none⟩ (.pointer (some ⟨w.heap.size + 16, 0, none⟩)))) := hide ((Fr.refl [w.heap.size + 2] v6).setCell (p := ⟨w.heap.size + 2, 1, none⟩) (.inl (by simp)) (.pointer (some ⟨w.heap.size + 16, 0, none⟩)))
  have nn : ∀ k, k ≠ w.heap.size + 2 → k ∉ [w.heap.size + 2] := fun k h => by simpa using h
  have g46 : Fr [w.heap.size + 2] v4 v6 := (unhide G4).drew.trans (f6.mono (by simp))
  have mf7 := hide (((unhide mcf).fr g46 (nn _ (by omega)) (nn _ (by omega))).fr (unhide G6) (nn _ (by omega)) (nn _ (by omega)))
  have mq7 := hide (((unhide mcq).fr g46 (nn _ (by omega)) (nn _ (by omega))).fr (unhide G6) (nn _ (by omega)) (nn _ (by omega)))
  have mb7 := hide (m6.fr (unhide G6) (nn _ (by omega)) (nn _ (by omega)))
  have fr7 := hide (((unhide fr5).drew.trans f6).new (unhide G6) (by intro x hx; simp only [List.mem_singleton] at hx; right; omega))
  have s7 : w.heap.size + 17 ≤ (v6.setCell ⟨w.heap.size + 2, 1, none⟩ (.pointer (some ⟨w.heap.size + 16, 0, none⟩))).heap.size := by have := (unhide G6).size; omega
  clear g46 nn G6 G4 m6 f6 s6 rc6 rm6 q1 q2 q3 q4 k1 b0 n1 HC Hs5 rc5 rm5 rr5 fr5 mcf mcq Hm4 Hin HB e1 e1' lB
  generalize v6.setCell ⟨w.heap.size + 2, 1, none⟩ (.pointer (some ⟨w.heap.size + 16, 0, none⟩)) = W7 at *
  have k5 : W7.cell? ⟨w.heap.size, 5, none⟩ = some .nilIface := (unhide rm7).cell (i := 5) (by omega)
  have n0 : W7.cell? ⟨w.heap.size + 2, 0, none⟩ = some (.pointer (some ⟨w.heap.size + 4, 0, none⟩)) := (unhide rc7).cell (i := 0) (by omega)
  have r0 : W7.cell? ⟨w.heap.size + 1, 0, none⟩ = some (.pointer none) := (unhide rr7).cell (i := 0) (by omega)
  have y0 := (unhide rr7).frozen 0
  have n1 : W7.cell? ⟨w.heap.size + 2, 1, none⟩ = some (.pointer (some ⟨w.heap.size + 16, 0, none⟩)) := (unhide rc7).cell (i := 1) (by omega)
  have r1 : W7.cell? ⟨w.heap.size + 1, 1, none⟩ = some (.pointer none) := (unhide rr7).cell (i := 1) (by omega)
  have y1 := (unhide rr7).frozen 1
  have n2 : W7.cell? ⟨w.heap.size + 2, 2, none⟩ = some (.pointer (some ⟨w.heap.size + 6, 0, none⟩)) := (unhide rc7).cell (i := 2) (by omega)
  have r2 : W7.cell? ⟨w.heap.size + 1, 2, none⟩ = some (.pointer none) := (unhide rr7).cell (i := 2) (by omega)
  have y2 := (unhide rr7).frozen 2
  have n3 : W7.cell? ⟨w.heap.size + 2, 3, none⟩ = some (.pointer (some ⟨w.heap.size + 8, 0, none⟩)) := (unhide rc7).cell (i := 3) (by omega)
  have r3 : W7.cell? ⟨w.heap.size + 1, 3, none⟩ = some (.pointer none) := (unhide rr7).cell (i := 3) (by omega)
  have y3 := (unhide rr7).frozen 3
  have n4 : W7.cell? ⟨w.heap.size + 2, 4, none⟩ = some (.pointer (some ⟨w.heap.size + 12, 0, none⟩)) := (unhide rc7).cell (i := 4) (by omega)
  have r4 : W7.cell? ⟨w.heap.size + 1, 4, none⟩ = some (.pointer none) := (unhide rr7).cell (i := 4) (by omega)
  have y4 := (unhide rr7).frozen 4
  have n5 : W7.cell? ⟨w.heap.size + 2, 5, none⟩ = some (.pointer none) := (unhide rc7).cell (i := 5) (by omega)
  have r5 : W7.cell? ⟨w.heap.size + 1, 5, none⟩ = some (.pointer none) := (unhide rr7).cell (i := 5) (by omega)
  have y5 := (unhide rr7).frozen 5
  have fin : Hid (∀ W', Fr [w.heap.size + 1] W7 W' → Fr [] w W' ∧ w.heap.size + 17 ≤ W'.heap.size ∧ Mat W' (w.heap.size + 4) 2 2 (w.heap.size + 3) (flat 2 fF) ∧ Mat W' (w.heap.size + 8) 2 2 (w.heap.size + 7) (flat 2 fQ) ∧ Mat W' (w.heap.size + 16) 2 1 (w.heap.size + 15) (flat 1 fB)) := hide (by
    intro W' G7
    have ni : ∀ k, k ≠ w.heap.size + 1 → k ∉ [w.heap.size + 1] := fun k h1 => by simpa using h1
    refine ⟨(unhide fr7).new G7 ?_, Nat.le_trans s7 G7.size, (unhide mf7).fr G7 (ni _ (by omega)) (ni _ (by omega)), (unhide mq7).fr G7 (ni _ (by omega)) (ni _ (by omega)), (unhide mb7).fr G7 (ni _ (by omega)) (ni _ (by omega))⟩
    intro x hx
    simp only [List.mem_singleton] at hx
    right
    omega)
  clear rc7 rm7 rr7 mf7 mq7 mb7 fr7 s7
  go_wp2
  (try simp only [Exit.inBlock, Exit.then])
  refine bodyPost_ret (v := .tuple #[.agg #[.pointer (some ⟨w.heap.size + 4, 0, none⟩), .pointer (some ⟨w.heap.size + 16, 0, none⟩), .pointer (some ⟨w.heap.size + 6, 0, none⟩), .pointer (some ⟨w.heap.size + 8, 0, none⟩), .pointer (some ⟨w.heap.size + 12, 0, none⟩), .pointer none], .nilIface]) ?_ rfl ?_
  · rw [results_cell_tmp rfl]
    go_simp
  · refine And.intro rfl ?_
    refine unhide fin _ ?_
    repeat' (with_reducible first | refine Fr.setCell ?_ (.inl (by simp)) _ | refine Fr.drewN ?_ _ | refine Fr.drew ?_ | exact Fr.refl _ _)
end Go.Proofs.YbulkaotqFmt.Wk
