/-
  'checkModel' (12) of a model with a motion.
-/
import Derived.Test.YbulkaotqFmtMIn
namespace Go.Proofs.YbulkaotqFmt.Wk
open Go.RowKit Fl

theorem neq_nil30 (w : World) : (binOp .neq 30 .nilIface .nilIface).run Ybaf.prog w = .ok (.bool false) w := by kernel_rfl
theorem neq_if30 (a : Addr) (w : World) : (binOp .neq 30 (.iface 56 (.pointer (some a))) .nilIface).run Ybaf.prog w = .ok (.bool true) w := by kernel_rfl

/-- The motion that a model carries. -/
structure MoIn (w : World) (mb da ba dwd bw did bi t : Nat) (fa fw fi : Nat → Nat) (fF fQ : Nat → Nat → Nat) (za : Nat → Int) (w0 w1 zt : Int) (A W T : Nat) : Prop where
  mo : w.rowIs mb 58 4 (mv da dwd did (.slice none 0 0))
  ma : Mat w da 2 2 ba fa
  mw : Mat w dwd 2 2 bw fw
  mi : Mat w did 2 2 bi fi
  ra : ∀ i, i < 4 → Rep (fa i) (za i) ∧ Bd (za i) A
  rw : ∀ i, i < 4 → Rep (fw i) (dg2 w0 w1 i) ∧ Bd (dg2 w0 w1 i) W
  ri : ∀ i, i < 4 → Rep (fi i) (dg2 1 1 i) ∧ Bd (dg2 1 1 i) 1
  rt : Rep t zt ∧ Bd zt T
  hA : 2 * (A * T) < 9007199254740992
  hW : 2 * (W * 1) < 9007199254740992
  hWW : 2 * (W * W) < 9007199254740992
  rF : ∀ i, i < 4 → Rep (flat 2 fF i) (ft za zt i)
  rQ : ∀ i, i < 4 → Rep (flat 2 fQ i) (dg2 (w0 * w0) (w1 * w1) i)

set_option maxRecDepth 100000 in
set_option maxHeartbeats 4000000 in
theorem chk_m (w : World) (oF oH oQ oR : Nat) (rF rH rQ rR : Nat → Nat) (fF fH fQ fR : Nat → Nat → Nat) (mb da ba dwd bw did bi t : Nat) (fa fw' fi : Nat → Nat) (za : Nat → Int) (w0 w1 zt : Int) (A W T : Nat)
    (hin : MIn w oF oH oQ oR rF rH rQ rR fF fH fQ fR) (hmo : MoIn w mb da ba dwd bw did bi t fa fw' fi fF fQ za w0 w1 zt A W T) :
    Calls Ybaf.prog 12 #[.agg (mval oF (.slice none 0 0) oH oQ oR (.iface 56 (.pointer (some ⟨mb, 0, none⟩))) (.float .f64 t))] w fun e w' =>
      e = .returned (.tuple #[.agg #[.pointer (some ⟨w.heap.size + 4, 0, none⟩), .pointer none, .pointer (some ⟨w.heap.size + 6, 0, none⟩), .pointer (some ⟨w.heap.size + 8, 0, none⟩), .pointer (some ⟨w.heap.size + 12, 0, none⟩), .pointer (some ⟨w.heap.size + 21, 0, none⟩)], .nilIface]) ∧ Fr [mb] w w' ∧ w.heap.size + 22 ≤ w'.heap.size ∧
      w'.rowIs (w.heap.size + 21) 83 5 (sv mb (w.heap.size + 16) (w.heap.size + 18) (w.heap.size + 20)) ∧
      (∃ v, w'.rowIs mb 58 4 (mv da dwd did v) ∧ w'.ownsRow 0 26 1 v 1 [.float .f64 t] ∧ ∀ g, v.ownBlock = some g → w.heap.size + 22 ≤ g) ∧
      (∃ g, Mat w' (w.heap.size + 16) 2 2 (w.heap.size + 15) g) ∧ (∃ g, Mat w' (w.heap.size + 18) 2 2 (w.heap.size + 17) g) ∧ (∃ g, Mat w' (w.heap.size + 20) 2 2 (w.heap.size + 19) g) := by
  have Hmo := hide hmo
  clear hmo
  have Hin := hide hin
  have hn := neq_nil35
  have hn30 := neq_nil30
  have hni := neq_if30
  clear hin
  unfold mval
  go_enter Ybaf.func12, Ybaf.ntmps12
  go_wp2
  have rm := hide ((mbox w oF (.slice none 0 0) oH oQ oR (.iface 56 (.pointer (some ⟨mb, 0, none⟩))) (.float .f64 t)).alloc (.cells #[.pointer none, .pointer none, .pointer none, .pointer none, .pointer none, .pointer none] 44))
  have rr := hide (c6_alloc (w.alloc (.cells (mval oF (.slice none 0 0) oH oQ oR (.iface 56 (.pointer (some ⟨mb, 0, none⟩))) (.float .f64 t)) 32)))
  have fr := hide (((Fr.refl [] w).alloc (.cells (mval oF (.slice none 0 0) oH oQ oR (.iface 56 (.pointer (some ⟨mb, 0, none⟩))) (.float .f64 t)) 32)).alloc (.cells #[.pointer none, .pointer none, .pointer none, .pointer none, .pointer none, .pointer none] 44))
  have sz : ((w.alloc (.cells (mval oF (.slice none 0 0) oH oQ oR (.iface 56 (.pointer (some ⟨mb, 0, none⟩))) (.float .f64 t)) 32)).alloc (.cells #[.pointer none, .pointer none, .pointer none, .pointer none, .pointer none, .pointer none] 44)).heap.size = w.heap.size + 2 := by simp
  rw [size_al] at rr
  unfold mval at rm rr fr sz
  generalize (w.alloc (.cells #[.slice (some ⟨oF, 0, none⟩) 2 2, (.slice none 0 0), .slice (some ⟨oH, 0, none⟩) 1 1, .slice (some ⟨oQ, 0, none⟩) 2 2, .slice (some ⟨oR, 0, none⟩) 1 1, (.iface 56 (.pointer (some ⟨mb, 0, none⟩))), (.float .f64 t)] 32)).alloc (.cells #[.pointer none, .pointer none, .pointer none, .pointer none, .pointer none, .pointer none] 44) = W0 at *
  have c0 : W0.cell? ⟨w.heap.size, 0, none⟩ = some (.slice (some ⟨oF, 0, none⟩) 2 2) := (unhide rm).cell (i := 0) (by omega)
  have c2 : W0.cell? ⟨w.heap.size, 2, none⟩ = some (.slice (some ⟨oH, 0, none⟩) 1 1) := (unhide rm).cell (i := 2) (by omega)
  go_quiet (fail)
  go_wp2_with fail
  have rm1 := hide (World.rowIs.alloc (w := W0.drewN nq) (unhide rm) (.cells #[.pointer none, .pointer none, .pointer none, .pointer none, .pointer none, .pointer none] 44))
  have rr1 := hide (World.rowIs.alloc (w := W0.drewN nq) (unhide rr) (.cells #[.pointer none, .pointer none, .pointer none, .pointer none, .pointer none, .pointer none] 44))
  have rc1 : Hid ((((W0.drewN nq).alloc (.cells #[.pointer none, .pointer none, .pointer none, .pointer none, .pointer none, .pointer none] 44))).rowIs W0.heap.size 44 6 (c6 none none none none none none)) := hide (c6_alloc (W0.drewN nq))
  have fr1 := hide (((unhide fr).drewN nq).alloc (.cells #[.pointer none, .pointer none, .pointer none, .pointer none, .pointer none, .pointer none] 44))
  have sz1 : ((W0.drewN nq).alloc (.cells #[.pointer none, .pointer none, .pointer none, .pointer none, .pointer none, .pointer none] 44)).heap.size = w.heap.size + 3 := by rw [size_al]; exact congrArg (· + 1) sz
  rw [sz] at rc1
  try simp only [sz]
  clear c0 c2 rm rr fr
  generalize (W0.drewN nq).alloc (.cells #[.pointer none, .pointer none, .pointer none, .pointer none, .pointer none, .pointer none] 44) = W1 at *
  clear sz
  have HM1 := hide ((unhide Hin).mv (unhide fr1))
  have hc := matrix_any W1 ⟨#[70]⟩ oF 2 2 rF fF ⟨.inr rfl, .inr rfl⟩ (unhide HM1).f (unhide HM1).ff
  simp only [sz1, Nat.add_assoc, Nat.reduceAdd] at hc
  refine hc.mono ?_
  rintro e v1 ⟨rfl, m1, f1, s1⟩
  clear hc
  have rm_1 := hide (f1.row (unhide rm1) (by simp))
  have rr_1 := hide (f1.row (unhide rr1) (by simp))
  have rc_1 := hide (f1.row (unhide rc1) (by simp))
  have fr_1 := hide ((unhide fr1).trans f1)
  have k2 : v1.cell? ⟨w.heap.size, 2, none⟩ = some (.slice (some ⟨oH, 0, none⟩) 1 1) := (unhide rm_1).cell (i := 2) (by omega)
  have cc : v1.cell? ⟨w.heap.size + 2, 0, none⟩ = some (.pointer none) := (unhide rc_1).cell (i := 0) (by omega)
  have cf := (unhide rc_1).frozen 0
  have Hm1 := hide m1
  have Hf1 := hide f1
  clear m1 f1 rm1 rr1 rc1 fr1 sz1 HM1
  go_wp2_with fail
  have rm2 := hide ((unhide rm_1).setOther (a := ⟨w.heap.size + 2, 0, none⟩) (by simp) (.pointer (some ⟨w.heap.size + 4, 0, none⟩)))
  have rr2 := hide ((unhide rr_1).setOther (a := ⟨w.heap.size + 2, 0, none⟩) (by simp) (.pointer (some ⟨w.heap.size + 4, 0, none⟩)))
  have rc2 : Hid (World.rowIs (v1.setCell ⟨w.heap.size + 2, 0, none⟩ (.pointer (some ⟨w.heap.size + 4, 0, none⟩))) (w.heap.size + 2) 44 6 (c6 (some ⟨w.heap.size + 4, 0, none⟩) none none none none none)) := hide (((unhide rc_1).set 0 (.pointer (some ⟨w.heap.size + 4, 0, none⟩))).congr (by
    intro i hi
    match i, hi with
    | 0, _ => rfl
    | 1, _ => rfl
    | 2, _ => rfl
    | 3, _ => rfl
    | 4, _ => rfl
    | 5, _ => rfl
    | i + 6, h => exact absurd h (by simp)))
  have fr2 := hide ((unhide fr_1).setCell (p := ⟨w.heap.size + 2, 0, none⟩) (.inr (by simp)) (.pointer (some ⟨w.heap.size + 4, 0, none⟩)))
  have sz2 : (v1.setCell ⟨w.heap.size + 2, 0, none⟩ (.pointer (some ⟨w.heap.size + 4, 0, none⟩))).heap.size = w.heap.size + 5 := by rw [show (v1.setCell ⟨w.heap.size + 2, 0, none⟩ (.pointer (some ⟨w.heap.size + 4, 0, none⟩))).heap.size = v1.heap.size from by simp]; exact s1
  have G1 : Hid (Fr [w.heap.size + 2] v1 (v1.setCell ⟨w.heap.size + 2, 0, none⟩ (.pointer (some ⟨w.heap.size + 4, 0, none⟩)))) := hide ((Fr.refl [w.heap.size + 2] v1).setCell (p := ⟨w.heap.size + 2, 0, none⟩) (.inl (by simp)) (.pointer (some ⟨w.heap.size + 4, 0, none⟩)))
  clear k2 cc cf s1 rm_1 rr_1 rc_1 fr_1
  generalize (v1.setCell ⟨w.heap.size + 2, 0, none⟩ (.pointer (some ⟨w.heap.size + 4, 0, none⟩))) = W2 at *
  have HM2 := hide ((unhide Hin).mv (unhide fr2))
  have hc := matrix_any W2 ⟨#[72]⟩ oH 1 2 rH fH ⟨.inl rfl, .inr rfl⟩ (unhide HM2).h (unhide HM2).fh
  simp only [sz2, Nat.add_assoc, Nat.reduceAdd] at hc
  refine hc.mono ?_
  rintro e v2 ⟨rfl, m2, f2, s2⟩
  clear hc
  have rm_2 := hide (f2.row (unhide rm2) (by simp))
  have rr_2 := hide (f2.row (unhide rr2) (by simp))
  have rc_2 := hide (f2.row (unhide rc2) (by simp))
  have fr_2 := hide ((unhide fr2).trans f2)
  have k3 : v2.cell? ⟨w.heap.size, 3, none⟩ = some (.slice (some ⟨oQ, 0, none⟩) 2 2) := (unhide rm_2).cell (i := 3) (by omega)
  have cc : v2.cell? ⟨w.heap.size + 2, 2, none⟩ = some (.pointer none) := (unhide rc_2).cell (i := 2) (by omega)
  have cf := (unhide rc_2).frozen 2
  have Hm2 := hide m2
  have Hf2 := hide f2
  clear m2 f2 rm2 rr2 rc2 fr2 sz2 HM2
  go_wp2_with fail
  have rm3 := hide ((unhide rm_2).setOther (a := ⟨w.heap.size + 2, 2, none⟩) (by simp) (.pointer (some ⟨w.heap.size + 6, 0, none⟩)))
  have rr3 := hide ((unhide rr_2).setOther (a := ⟨w.heap.size + 2, 2, none⟩) (by simp) (.pointer (some ⟨w.heap.size + 6, 0, none⟩)))
  have rc3 : Hid (World.rowIs (v2.setCell ⟨w.heap.size + 2, 2, none⟩ (.pointer (some ⟨w.heap.size + 6, 0, none⟩))) (w.heap.size + 2) 44 6 (c6 (some ⟨w.heap.size + 4, 0, none⟩) none (some ⟨w.heap.size + 6, 0, none⟩) none none none)) := hide (((unhide rc_2).set 2 (.pointer (some ⟨w.heap.size + 6, 0, none⟩))).congr (by
    intro i hi
    match i, hi with
    | 0, _ => rfl
    | 1, _ => rfl
    | 2, _ => rfl
    | 3, _ => rfl
    | 4, _ => rfl
    | 5, _ => rfl
    | i + 6, h => exact absurd h (by simp)))
  have fr3 := hide ((unhide fr_2).setCell (p := ⟨w.heap.size + 2, 2, none⟩) (.inr (by simp)) (.pointer (some ⟨w.heap.size + 6, 0, none⟩)))
  have sz3 : (v2.setCell ⟨w.heap.size + 2, 2, none⟩ (.pointer (some ⟨w.heap.size + 6, 0, none⟩))).heap.size = w.heap.size + 7 := by rw [show (v2.setCell ⟨w.heap.size + 2, 2, none⟩ (.pointer (some ⟨w.heap.size + 6, 0, none⟩))).heap.size = v2.heap.size from by simp]; exact s2
  have G2 : Hid (Fr [w.heap.size + 2] v2 (v2.setCell ⟨w.heap.size + 2, 2, none⟩ (.pointer (some ⟨w.heap.size + 6, 0, none⟩)))) := hide ((Fr.refl [w.heap.size + 2] v2).setCell (p := ⟨w.heap.size + 2, 2, none⟩) (.inl (by simp)) (.pointer (some ⟨w.heap.size + 6, 0, none⟩)))
  clear k3 cc cf s2 rm_2 rr_2 rc_2 fr_2
  generalize (v2.setCell ⟨w.heap.size + 2, 2, none⟩ (.pointer (some ⟨w.heap.size + 6, 0, none⟩))) = W3 at *
  have HM3 := hide ((unhide Hin).mv (unhide fr3))
  have hc := cov_any W3 ⟨#[81]⟩ oQ 2 rQ fQ (unhide HM3).q (unhide HM3).fq (unhide HM3).dq
  simp only [sz3, Nat.add_assoc, Nat.reduceAdd] at hc
  refine hc.mono ?_
  rintro e v3 ⟨rfl, m3, f3, s3⟩
  clear hc
  have rm_3 := hide (f3.row (unhide rm3) (by simp))
  have rr_3 := hide (f3.row (unhide rr3) (by simp))
  have rc_3 := hide (f3.row (unhide rc3) (by simp))
  have fr_3 := hide ((unhide fr3).trans f3)
  have k4 : v3.cell? ⟨w.heap.size, 4, none⟩ = some (.slice (some ⟨oR, 0, none⟩) 1 1) := (unhide rm_3).cell (i := 4) (by omega)
  have cc : v3.cell? ⟨w.heap.size + 2, 3, none⟩ = some (.pointer none) := (unhide rc_3).cell (i := 3) (by omega)
  have cf := (unhide rc_3).frozen 3
  have Hm3 := hide m3
  have Hf3 := hide f3
  clear m3 f3 rm3 rr3 rc3 fr3 sz3 HM3
  go_wp2_with fail
  have rm4 := hide ((unhide rm_3).setOther (a := ⟨w.heap.size + 2, 3, none⟩) (by simp) (.pointer (some ⟨w.heap.size + 8, 0, none⟩)))
  have rr4 := hide ((unhide rr_3).setOther (a := ⟨w.heap.size + 2, 3, none⟩) (by simp) (.pointer (some ⟨w.heap.size + 8, 0, none⟩)))
  have rc4 : Hid (World.rowIs (v3.setCell ⟨w.heap.size + 2, 3, none⟩ (.pointer (some ⟨w.heap.size + 8, 0, none⟩))) (w.heap.size + 2) 44 6 (c6 (some ⟨w.heap.size + 4, 0, none⟩) none (some ⟨w.heap.size + 6, 0, none⟩) (some ⟨w.heap.size + 8, 0, none⟩) none none)) := hide (((unhide rc_3).set 3 (.pointer (some ⟨w.heap.size + 8, 0, none⟩))).congr (by
    intro i hi
    match i, hi with
    | 0, _ => rfl
    | 1, _ => rfl
    | 2, _ => rfl
    | 3, _ => rfl
    | 4, _ => rfl
    | 5, _ => rfl
    | i + 6, h => exact absurd h (by simp)))
  have fr4 := hide ((unhide fr_3).setCell (p := ⟨w.heap.size + 2, 3, none⟩) (.inr (by simp)) (.pointer (some ⟨w.heap.size + 8, 0, none⟩)))
  have sz4 : (v3.setCell ⟨w.heap.size + 2, 3, none⟩ (.pointer (some ⟨w.heap.size + 8, 0, none⟩))).heap.size = w.heap.size + 11 := by rw [show (v3.setCell ⟨w.heap.size + 2, 3, none⟩ (.pointer (some ⟨w.heap.size + 8, 0, none⟩))).heap.size = v3.heap.size from by simp]; exact s3
  have G3 : Hid (Fr [w.heap.size + 2] v3 (v3.setCell ⟨w.heap.size + 2, 3, none⟩ (.pointer (some ⟨w.heap.size + 8, 0, none⟩)))) := hide ((Fr.refl [w.heap.size + 2] v3).setCell (p := ⟨w.heap.size + 2, 3, none⟩) (.inl (by simp)) (.pointer (some ⟨w.heap.size + 8, 0, none⟩)))
  clear k4 cc cf s3 rm_3 rr_3 rc_3 fr_3
  generalize (v3.setCell ⟨w.heap.size + 2, 3, none⟩ (.pointer (some ⟨w.heap.size + 8, 0, none⟩))) = W4 at *
  have HM4 := hide ((unhide Hin).mv (unhide fr4))
  have hc := cov_any W4 ⟨#[82]⟩ oR 1 rR fR (unhide HM4).r (unhide HM4).fr (unhide HM4).dr
  simp only [sz4, Nat.add_assoc, Nat.reduceAdd] at hc
  refine hc.mono ?_
  rintro e v4 ⟨rfl, m4, f4, s4⟩
  clear hc
  have rm_4 := hide (f4.row (unhide rm4) (by simp))
  have rr_4 := hide (f4.row (unhide rr4) (by simp))
  have rc_4 := hide (f4.row (unhide rc4) (by simp))
  have fr_4 := hide ((unhide fr4).trans f4)
  have k1 : v4.cell? ⟨w.heap.size, 1, none⟩ = some (.slice none 0 0) := (unhide rm_4).cell (i := 1) (by omega)
  have k5 : v4.cell? ⟨w.heap.size, 5, none⟩ = some (.iface 56 (.pointer (some ⟨mb, 0, none⟩))) := (unhide rm_4).cell (i := 5) (by omega)
  have k6 : v4.cell? ⟨w.heap.size, 6, none⟩ = some (.float .f64 t) := (unhide rm_4).cell (i := 6) (by omega)
  have cc : v4.cell? ⟨w.heap.size + 2, 4, none⟩ = some (.pointer none) := (unhide rc_4).cell (i := 4) (by omega)
  have cf := (unhide rc_4).frozen 4
  have Hm4 := hide m4
  have Hf4 := hide f4
  clear m4 f4 rm4 rr4 rc4 fr4 sz4 HM4
  go_wp2_with fail
  have rm5 := hide ((unhide rm_4).setOther (a := ⟨w.heap.size + 2, 4, none⟩) (by simp) (.pointer (some ⟨w.heap.size + 12, 0, none⟩)))
  have rr5 := hide ((unhide rr_4).setOther (a := ⟨w.heap.size + 2, 4, none⟩) (by simp) (.pointer (some ⟨w.heap.size + 12, 0, none⟩)))
  have rc5 : Hid (World.rowIs (v4.setCell ⟨w.heap.size + 2, 4, none⟩ (.pointer (some ⟨w.heap.size + 12, 0, none⟩))) (w.heap.size + 2) 44 6 (c6 (some ⟨w.heap.size + 4, 0, none⟩) none (some ⟨w.heap.size + 6, 0, none⟩) (some ⟨w.heap.size + 8, 0, none⟩) (some ⟨w.heap.size + 12, 0, none⟩) none)) := hide (((unhide rc_4).set 4 (.pointer (some ⟨w.heap.size + 12, 0, none⟩))).congr (by
    intro i hi
    match i, hi with
    | 0, _ => rfl
    | 1, _ => rfl
    | 2, _ => rfl
    | 3, _ => rfl
    | 4, _ => rfl
    | 5, _ => rfl
    | i + 6, h => exact absurd h (by simp)))
  have fr5 := hide ((unhide fr_4).setCell (p := ⟨w.heap.size + 2, 4, none⟩) (.inr (by simp)) (.pointer (some ⟨w.heap.size + 12, 0, none⟩)))
  have sz5 : (v4.setCell ⟨w.heap.size + 2, 4, none⟩ (.pointer (some ⟨w.heap.size + 12, 0, none⟩))).heap.size = w.heap.size + 15 := by rw [show (v4.setCell ⟨w.heap.size + 2, 4, none⟩ (.pointer (some ⟨w.heap.size + 12, 0, none⟩))).heap.size = v4.heap.size from by simp]; exact s4
  have G4 : Hid (Fr [w.heap.size + 2] v4 (v4.setCell ⟨w.heap.size + 2, 4, none⟩ (.pointer (some ⟨w.heap.size + 12, 0, none⟩)))) := hide ((Fr.refl [w.heap.size + 2] v4).setCell (p := ⟨w.heap.size + 2, 4, none⟩) (.inl (by simp)) (.pointer (some ⟨w.heap.size + 12, 0, none⟩)))
  clear k1 k5 k6 cc cf s4 rm_4 rr_4 rc_4 fr_4
  generalize (v4.setCell ⟨w.heap.size + 2, 4, none⟩ (.pointer (some ⟨w.heap.size + 12, 0, none⟩))) = W5 at *
  have hc := newStep_any W5 mb
  simp only [sz5, Nat.add_assoc, Nat.reduceAdd] at hc
  refine hc.mono ?_
  rintro e v5 ⟨rfl, f5, rs5, mf5, mw5, mq5, s5⟩
  clear hc
  have fw := (unhide fr5).trans f5
  have rm6 := hide (f5.row (unhide rm5) (by simp))
  have rr6 := hide (f5.row (unhide rr5) (by simp))
  have rc6 := hide (f5.row (unhide rc5) (by simp))
  have k6 : v5.cell? ⟨w.heap.size, 6, none⟩ = some (.float .f64 t) := (unhide rm6).cell (i := 6) (by omega)
  have lt : ∀ {k t' N f}, w.rowIs k t' N f → k < w.heap.size := fun h => h.lt
  have hp : AtPre v5 mb da ba dwd bw did bi (w.heap.size + 16) (w.heap.size + 15) (w.heap.size + 18) (w.heap.size + 17) (w.heap.size + 22) t 0 fa fw' fi (fun _ => 0) (fun _ => 0) za (dg2 w0 w1) zt A W T (.slice none 0 0) [] := by
    have hm := unhide Hmo
    have h1 := lt hm.ma.head
    have h2 := lt hm.ma.data
    have h3 := lt hm.mw.head
    have h4 := lt hm.mw.data
    have h5 := lt hm.mi.head
    have h6 := lt hm.mi.data
    have h7 := lt hm.mo
    exact { mo := fw.row hm.mo (by simp), ma := hm.ma.fr fw (by simp) (by simp), mw := hm.mw.fr fw (by simp) (by simp), mi := hm.mi.fr fw (by simp) (by simp), mf := mf5, mn := mw5, log := ⟨rfl, .inl ⟨rfl, rfl⟩⟩, hn := by omega, hlb := by intro g hg; simp [Value.ownBlock] at hg, l1 := by omega, l2 := by omega, l3 := by omega, l4 := by omega, l5 := by omega, k1 := by omega, k2 := by omega, k3 := by omega, k4 := by omega, k5 := by omega, k6 := by omega, n1 := by omega, n2 := by omega, n3 := by omega, n4 := by omega, n5 := by omega, n6 := by omega, ra := hm.ra, rw := hm.rw, ri := hm.ri, rt := hm.rt, hA := hm.hA, hW := hm.hW }
  have Hs := hide (stepAt_any v5 (w.heap.size + 21) (w.heap.size + 20) (w.heap.size + 19) mb da ba dwd bw did bi (w.heap.size + 16) (w.heap.size + 15) (w.heap.size + 18) (w.heap.size + 17) (w.heap.size + 22) t 0 fa fw' fi (fun _ => 0) (fun _ => 0) (fun _ => 0) za w0 w1 zt A W T (.slice none 0 0) [] hp rs5 mq5 (by omega) (by omega) (by omega) (by omega) (by omega) (unhide Hmo).hWW)
  have Hrs5 := hide rs5
  have Hf5 := hide f5
  have Hfw := hide fw
  clear hp rs5 mf5 mw5 mq5 f5 fw lt rm5 rr5 rc5 fr5
  go_wp2_with fail
  refine (unhide Hs).mono ?_
  rintro e v6 ⟨rfl, f6, hlog, ⟨gF, mF, rF'⟩, ⟨gW, mW, rW'⟩, gQ, mQ, rQ'⟩
  clear Hs k6
  have lm := (unhide Hmo).mo.lt
  have F6 : ∀ k, w.heap.size ≤ k → k ≠ w.heap.size + 22 → k ≠ w.heap.size + 15 → k ≠ w.heap.size + 17 → k ≠ w.heap.size + 19 → k ∉ [mb, w.heap.size + 22, w.heap.size + 15, w.heap.size + 17, w.heap.size + 19] := by
    intro k h1 h2 h3 h4 h5
    simp only [List.mem_cons, List.not_mem_nil, or_false, not_or]
    omega
  have rs6 := hide (f6.row (unhide Hrs5) (F6 _ (by omega) (by omega) (by omega) (by omega) (by omega)))
  have rr7 := hide (f6.row (unhide rr6) (F6 _ (by omega) (by omega) (by omega) (by omega) (by omega)))
  have rc7 := hide (f6.row (unhide rc6) (F6 _ (by omega) (by omega) (by omega) (by omega) (by omega)))
  have g41 : Fr [w.heap.size + 2, mb, w.heap.size + 22, w.heap.size + 15, w.heap.size + 17, w.heap.size + 19] v4 v6 := (((unhide G4).mono (T := [w.heap.size + 2, mb, w.heap.size + 22, w.heap.size + 15, w.heap.size + 17, w.heap.size + 19]) (fun k _ hk => by simp only [List.mem_cons, List.not_mem_nil, or_false] at hk ⊢; omega)).trans ((unhide Hf5).mono (by simp))).trans (f6.mono (fun k _ hk => by simp only [List.mem_cons, List.not_mem_nil, or_false] at hk ⊢; omega))
  have g31 := ((unhide G3).mono (T := [w.heap.size + 2, mb, w.heap.size + 22, w.heap.size + 15, w.heap.size + 17, w.heap.size + 19]) (fun k _ hk => by simp only [List.mem_cons, List.not_mem_nil, or_false] at hk ⊢; omega)).trans (((unhide Hf4).mono (by simp)).trans g41)
  have g11 := ((unhide G1).mono (T := [w.heap.size + 2, mb, w.heap.size + 22, w.heap.size + 15, w.heap.size + 17, w.heap.size + 19]) (fun k _ hk => by simp only [List.mem_cons, List.not_mem_nil, or_false] at hk ⊢; omega)).trans (((unhide Hf2).mono (by simp)).trans (((unhide G2).mono (fun k _ hk => by simp only [List.mem_cons, List.not_mem_nil, or_false] at hk ⊢; omega)).trans (((unhide Hf3).mono (by simp)).trans g31)))
  have F7 : ∀ k, w.heap.size ≤ k → k ≠ w.heap.size + 2 → k ≠ w.heap.size + 22 → k ≠ w.heap.size + 15 → k ≠ w.heap.size + 17 → k ≠ w.heap.size + 19 → k ∉ [w.heap.size + 2, mb, w.heap.size + 22, w.heap.size + 15, w.heap.size + 17, w.heap.size + 19] := by
    intro k h1 h2 h3 h4 h5 h6
    simp only [List.mem_cons, List.not_mem_nil, or_false, not_or]
    omega
  have mcf := hide ((unhide Hm1).fr g11 (F7 _ (by omega) (by omega) (by omega) (by omega) (by omega) (by omega)) (F7 _ (by omega) (by omega) (by omega) (by omega) (by omega) (by omega)))
  have mcq := hide ((unhide Hm3).fr g31 (F7 _ (by omega) (by omega) (by omega) (by omega) (by omega) (by omega)) (F7 _ (by omega) (by omega) (by omega) (by omega) (by omega) (by omega)))
  have HmF := hide (And.intro mF (And.intro mW mQ))
  have Hlog := hide hlog
  have Hf6 := hide f6
  have HrF := hide (fun i (hi : i < 4) => rep_ord (rF' i hi) ((unhide Hmo).rF i hi))
  have HrQ := hide (fun i (hi : i < 4) => rep_ord (rQ' i hi) ((unhide Hmo).rQ i hi))
  have hf6s : w.heap.size + 22 ≤ v6.heap.size := by have := f6.size; omega
  clear mF mW mQ rF' rW' rQ' hlog f6 g11 g31 g41
  have p1 : v6.cell? ⟨w.heap.size + 21, 1, none⟩ = some (.pointer (some ⟨w.heap.size + 16, 0, none⟩)) := (unhide rs6).cell (i := 1) (by omega)
  have p2 : v6.cell? ⟨w.heap.size + 21, 2, none⟩ = some (.pointer none) := (unhide rs6).cell (i := 2) (by omega)
  have p4 : v6.cell? ⟨w.heap.size + 21, 4, none⟩ = some (.pointer (some ⟨w.heap.size + 20, 0, none⟩)) := (unhide rs6).cell (i := 4) (by omega)
  have n0 : v6.cell? ⟨w.heap.size + 2, 0, none⟩ = some (.pointer (some ⟨w.heap.size + 4, 0, none⟩)) := (unhide rc7).cell (i := 0) (by omega)
  have n1 : v6.cell? ⟨w.heap.size + 2, 1, none⟩ = some (.pointer none) := (unhide rc7).cell (i := 1) (by omega)
  have n3 : v6.cell? ⟨w.heap.size + 2, 3, none⟩ = some (.pointer (some ⟨w.heap.size + 8, 0, none⟩)) := (unhide rc7).cell (i := 3) (by omega)
  go_wp2
  go_quiet (fail)
  go_wp2
  generalize hA16 : w.heap.size + 16 = a16 at *
  generalize hA20 : w.heap.size + 20 = a20 at *
  generalize hA4 : w.heap.size + 4 = a4 at *
  generalize hA8 : w.heap.size + 8 = a8 at *
  have E1 := hide (fun n => matEqual_any (v6.drewN n) a16 (w.heap.size + 15) a4 (w.heap.size + 3) gF (flat 2 fF) (by exact ⟨(unhide HmF).1.head, (unhide HmF).1.data⟩) (by exact ⟨(unhide mcf).head, (unhide mcf).data⟩) (unhide HrF))
  have E2 := hide (fun n => matEqual_any (v6.drewN n) a20 (w.heap.size + 19) a8 (w.heap.size + 7) gQ (flat 2 fQ) (by exact ⟨(unhide HmF).2.2.head, (unhide HmF).2.2.data⟩) (by exact ⟨(unhide mcq).head, (unhide mcq).data⟩) (unhide HrQ))
  go_quiet ((first | (go_at_call 30; with_reducible exact quiet_in (unhide E1 _)) | (go_at_call 30; with_reducible exact quiet_in (unhide E2 _))))
  subst hA16 hA20 hA4 hA8
  clear E1 E2 p1 p2 p4
  have n2 : v6.cell? ⟨w.heap.size + 2, 2, none⟩ = some (.pointer (some ⟨w.heap.size + 6, 0, none⟩)) := (unhide rc7).cell (i := 2) (by omega)
  have n4 : v6.cell? ⟨w.heap.size + 2, 4, none⟩ = some (.pointer (some ⟨w.heap.size + 12, 0, none⟩)) := (unhide rc7).cell (i := 4) (by omega)
  have n5 : v6.cell? ⟨w.heap.size + 2, 5, none⟩ = some (.pointer none) := (unhide rc7).cell (i := 5) (by omega)
  have z5 := (unhide rc7).frozen 5
  have r0 : v6.cell? ⟨w.heap.size + 1, 0, none⟩ = some (.pointer none) := (unhide rr7).cell (i := 0) (by omega)
  have y0 := (unhide rr7).frozen 0
  have r1 : v6.cell? ⟨w.heap.size + 1, 1, none⟩ = some (.pointer none) := (unhide rr7).cell (i := 1) (by omega)
  have y1 := (unhide rr7).frozen 1
  have r2 : v6.cell? ⟨w.heap.size + 1, 2, none⟩ = some (.pointer none) := (unhide rr7).cell (i := 2) (by omega)
  have y2 := (unhide rr7).frozen 2
  have r3 : v6.cell? ⟨w.heap.size + 1, 3, none⟩ = some (.pointer none) := (unhide rr7).cell (i := 3) (by omega)
  have y3 := (unhide rr7).frozen 3
  have r4 : v6.cell? ⟨w.heap.size + 1, 4, none⟩ = some (.pointer none) := (unhide rr7).cell (i := 4) (by omega)
  have y4 := (unhide rr7).frozen 4
  have r5 : v6.cell? ⟨w.heap.size + 1, 5, none⟩ = some (.pointer none) := (unhide rr7).cell (i := 5) (by omega)
  have y5 := (unhide rr7).frozen 5
  have fin : Hid (∀ W', Fr [w.heap.size + 1, w.heap.size + 2] v6 W' → Fr [mb] w W' ∧ w.heap.size + 22 ≤ W'.heap.size ∧
      W'.rowIs (w.heap.size + 21) 83 5 (sv mb (w.heap.size + 16) (w.heap.size + 18) (w.heap.size + 20)) ∧
      (∃ v, W'.rowIs mb 58 4 (mv da dwd did v) ∧ W'.ownsRow 0 26 1 v 1 [.float .f64 t] ∧ ∀ g, v.ownBlock = some g → w.heap.size + 22 ≤ g) ∧
      (∃ g, Mat W' (w.heap.size + 16) 2 2 (w.heap.size + 15) g) ∧ (∃ g, Mat W' (w.heap.size + 18) 2 2 (w.heap.size + 17) g) ∧ (∃ g, Mat W' (w.heap.size + 20) 2 2 (w.heap.size + 19) g)) := hide (by
    intro W' G7
    have ni : ∀ k, k ≠ w.heap.size + 1 → k ≠ w.heap.size + 2 → k ∉ [w.heap.size + 1, w.heap.size + 2] := fun k h1 h2 => by
      simp only [List.mem_cons, List.not_mem_nil, or_false, not_or]
      exact ⟨h1, h2⟩
    obtain ⟨v, h1, h2, h3⟩ := unhide Hlog
    have h4 : ∀ g, v.ownBlock = some g → w.heap.size + 22 ≤ g := fun g hg => by
      rcases h3 g hg with h | h
      · omega
      · omega
    refine ⟨(((unhide Hfw).mono (T := [mb]) (by simp)).new (unhide Hf6) ?_).new G7 ?_, Nat.le_trans hf6s G7.size, G7.row (unhide rs6) (ni _ (by omega) (by omega)), ⟨v, G7.row h1 (ni _ (by omega) (by omega)), ownsRow_fr h2 G7 (fun g hg => ni _ (by have := h4 g hg; omega) (by have := h4 g hg; omega)), h4⟩, ⟨gF, (unhide HmF).1.fr G7 (ni _ (by omega) (by omega)) (ni _ (by omega) (by omega))⟩, ⟨gW, (unhide HmF).2.1.fr G7 (ni _ (by omega) (by omega)) (ni _ (by omega) (by omega))⟩, gQ, (unhide HmF).2.2.fr G7 (ni _ (by omega) (by omega)) (ni _ (by omega) (by omega))⟩
    · intro x hx
      simp only [List.mem_cons, List.not_mem_nil, or_false] at hx ⊢
      omega
    · intro x hx
      simp only [List.mem_cons, List.not_mem_nil, or_false] at hx ⊢
      omega)
  clear Hlog HmF Hf6 rs6 rc7 rr7 mcf mcq HrF HrQ Hmo Hin Hfw F6 F7
  go_wp2
  (try simp only [Exit.inBlock, Exit.then])
  refine bodyPost_ret (v := .tuple #[.agg #[.pointer (some ⟨w.heap.size + 4, 0, none⟩), .pointer none, .pointer (some ⟨w.heap.size + 6, 0, none⟩), .pointer (some ⟨w.heap.size + 8, 0, none⟩), .pointer (some ⟨w.heap.size + 12, 0, none⟩), .pointer (some ⟨w.heap.size + 21, 0, none⟩)], .nilIface]) ?_ rfl ?_
  · rw [results_cell_tmp rfl]

    go_simp

  · refine And.intro rfl ?_
    refine unhide fin _ ?_

    repeat' (with_reducible first | refine Fr.setCell ?_ (.inl (by simp)) _ | refine Fr.drewN ?_ _ | refine Fr.drew ?_ | exact Fr.refl _ _)


end Go.Proofs.YbulkaotqFmt.Wk
