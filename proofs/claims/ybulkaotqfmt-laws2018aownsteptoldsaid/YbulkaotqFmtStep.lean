/-
  'newMotionStep' (28), 'motionStep.at' (29), 'stepMatrices' (19) with a motion.
-/
import Derived.Test.YbulkaotqFmtMot
namespace Go.Proofs.YbulkaotqFmt.Wk
open Go.RowKit Fl

/-- The five cells of a motion step. -/
def sv (mb df dw dq : Nat) : Nat → Value
  | 0 => .iface 56 (.pointer (some ⟨mb, 0, none⟩))
  | 1 => .pointer (some ⟨df, 0, none⟩)
  | 2 => .pointer none
  | 3 => .pointer (some ⟨dw, 0, none⟩)
  | 4 => .pointer (some ⟨dq, 0, none⟩)
  | _ => undef

theorem meth_dims (a : Addr) (w : World) : (method 241 56 (.pointer (some a)) "example.com/truepath/truepath.dims").run Ybaf.prog w = .ok (76, .pointer (some a)) w := by kernel_rfl
theorem meth_at (a : Addr) (w : World) : (method 241 56 (.pointer (some a)) "example.com/truepath/truepath.at").run Ybaf.prog w = .ok (75, .pointer (some a)) w := by kernel_rfl
theorem ahead_at (a : Addr) (w : World) : (nilAhead 241 56 (.pointer (some a)) "example.com/truepath/truepath.at").run Ybaf.prog w = .ok (some false) w := by kernel_rfl

set_option maxRecDepth 100000 in
set_option maxHeartbeats 1000000 in
theorem newStep_any (w : World) (mb : Nat) :
    Calls Ybaf.prog 28 #[.iface 56 (.pointer (some ⟨mb, 0, none⟩))] w fun e w' => e = .returned (.pointer (some ⟨w.heap.size + 6, 0, none⟩)) ∧ Fr [] w w' ∧
      w'.rowIs (w.heap.size + 6) 83 5 (sv mb (w.heap.size + 1) (w.heap.size + 3) (w.heap.size + 5)) ∧ Mat w' (w.heap.size + 1) 2 2 w.heap.size (fun _ => 0) ∧ Mat w' (w.heap.size + 3) 2 2 (w.heap.size + 2) (fun _ => 0) ∧ Mat w' (w.heap.size + 5) 2 2 (w.heap.size + 4) (fun _ => 0) ∧ w'.heap.size = w.heap.size + 7 := by
  have h1 := meth_dims
  go_enter Ybaf.func28, Ybaf.ntmps28
  go_wp2_with fail
  refine (dims76 w _).mono ?_
  rintro e w' ⟨rfl, rfl⟩
  go_wp2_with fail
  refine (new_any w 2 2 ⟨.inr rfl, .inr rfl⟩).mono ?_
  rintro e w1 ⟨rfl, m1, f1, s1⟩
  have H1 := hide (And.intro m1 (And.intro f1 s1))
  clear m1 f1 s1
  go_wp2_with fail
  refine (new_any w1 2 2 ⟨.inr rfl, .inr rfl⟩).mono ?_
  rintro e w2 ⟨rfl, m2, f2, s2⟩
  have H2 := hide (And.intro m2 (And.intro f2 s2))
  clear m2 f2 s2
  go_wp2_with fail
  refine (new_any w2 2 2 ⟨.inr rfl, .inr rfl⟩).mono ?_
  rintro e w3 ⟨rfl, m3, f3, s3⟩
  have H3 := hide (And.intro m3 (And.intro f3 s3))
  clear m3 f3 s3
  go_wp2
  go_ret
  obtain ⟨m1, f1, s1⟩ := unhide H1
  obtain ⟨m2, f2, s2⟩ := unhide H2
  obtain ⟨m3, f3, s3⟩ := unhide H3
  rw [s1] at m2 s2
  rw [s2] at m3 s3
  have r := World.rowIs_alloc w3 #[.iface 56 (.pointer (some ⟨mb, 0, none⟩)), .pointer (some ⟨w.heap.size + 1, 0, none⟩), .pointer none, .pointer (some ⟨w.heap.size + 3, 0, none⟩), .pointer (some ⟨w.heap.size + 5, 0, none⟩)] 83 (sv mb (w.heap.size + 1) (w.heap.size + 3) (w.heap.size + 5)) (by
    intro i hi
    match i, hi with
    | 0, _ => rfl
    | 1, _ => rfl
    | 2, _ => rfl
    | 3, _ => rfl
    | 4, _ => rfl
    | i + 5, h => exact absurd h (by simp))
  rw [s3] at r
  have F1 : Fr [] w1 (w3.alloc (.cells #[.iface 56 (.pointer (some ⟨mb, 0, none⟩)), .pointer (some ⟨w.heap.size + 1, 0, none⟩), .pointer none, .pointer (some ⟨w.heap.size + 3, 0, none⟩), .pointer (some ⟨w.heap.size + 5, 0, none⟩)] 83)) := (f2.trans f3).alloc _
  simp only [s3, s2, s1]
  refine ⟨rfl, f1.trans F1, r, m1.fr F1 (by simp) (by simp), m2.fr (f3.alloc _) (by simp) (by simp), m3.fr ((Fr.refl [] w3).alloc _) (by simp) (by simp), ?_⟩
  rw [size_al, s3]

theorem AtPre.drew {w : World} {mb da ba dwd bw did bi df bf dw bo lb t n : Nat} {fa fw fi gf gw : Nat → Nat} {za zw : Nat → Int} {zt : Int} {A W T : Nat} {vlog : Value} {xs : List Value} (H : AtPre w mb da ba dwd bw did bi df bf dw bo lb t n fa fw fi gf gw za zw zt A W T vlog xs) :
    AtPre w.drew mb da ba dwd bw did bi df bf dw bo lb t n fa fw fi gf gw za zw zt A W T vlog xs :=
  { mo := H.mo, ma := ⟨H.ma.head, H.ma.data⟩, mw := ⟨H.mw.head, H.mw.data⟩, mi := ⟨H.mi.head, H.mi.data⟩, mf := ⟨H.mf.head, H.mf.data⟩, mn := ⟨H.mn.head, H.mn.data⟩, log := H.log, hn := H.hn, hlb := H.hlb
    l1 := H.l1, l2 := H.l2, l3 := H.l3, l4 := H.l4, l5 := H.l5, k1 := H.k1, k2 := H.k2, k3 := H.k3, k4 := H.k4, k5 := H.k5, k6 := H.k6, n1 := H.n1, n2 := H.n2, n3 := H.n3, n4 := H.n4, n5 := H.n5, n6 := H.n6
    ra := H.ra, rw := H.rw, ri := H.ri, rt := H.rt, hA := H.hA, hW := H.hW }

/-- The transition that the motion gives. -/
def ft (za : Nat → Int) (zt : Int) : Nat → Int
  | 0 => za 0 * zt
  | 1 => za 1 * zt
  | 2 => za 1 * zt
  | 3 => za 3 * zt
  | _ => 0

set_option maxRecDepth 100000 in
set_option maxHeartbeats 4000000 in
theorem stepAt_any (w : World) (sb dq bq mb da ba dwd bw did bi df bf dw bo lb t n : Nat) (fa fw fi gf gw gq : Nat → Nat) (za : Nat → Int) (w0 w1 zt : Int) (A W T : Nat) (vlog : Value) (xs : List Value)
    (H : AtPre w mb da ba dwd bw did bi df bf dw bo lb t n fa fw fi gf gw za (dg2 w0 w1) zt A W T vlog xs) (hs : w.rowIs sb 83 5 (sv mb df dw dq)) (hq : Mat w dq 2 2 bq gq) (o1 : sb ≠ lb) (o2 : dq ≠ lb) (o3 : bq ≠ lb) (q1 : bq ≠ bf) (q2 : bq ≠ bo) (hWW : 2 * (W * W) < 9007199254740992) :
    Calls Ybaf.prog 29 #[.pointer (some ⟨sb, 0, none⟩), .float .f64 t] w fun e w' => e = .returned (.tuple #[]) ∧ Fr [mb, lb, bf, bo, bq] w w' ∧
      (∃ v, w'.rowIs mb 58 4 (mv da dwd did v) ∧ w'.ownsRow 0 26 1 v (n + 1) (xs ++ [.float .f64 t]) ∧ ∀ g, v.ownBlock = some g → g = lb ∨ w.heap.size ≤ g) ∧
      (∃ g, Mat w' df 2 2 bf g ∧ ∀ i, i < 4 → Rep (g i) (ft za zt i)) ∧ (∃ g, Mat w' dw 2 2 bo g ∧ ∀ i, i < 4 → Rep (g i) (dg2 w0 w1 i)) ∧ ∃ g, Mat w' dq 2 2 bq g ∧ ∀ i, i < 4 → Rep (g i) (dg2 (w0 * w0) (w1 * w1) i) := by
  have m1 := meth_at
  have m2 := ahead_at
  have c0 : w.cell? ⟨sb, 0, none⟩ = some (.iface 56 (.pointer (some ⟨mb, 0, none⟩))) := hs.cell (i := 0) (by omega)
  have c1 : w.cell? ⟨sb, 1, none⟩ = some (.pointer (some ⟨df, 0, none⟩)) := hs.cell (i := 1) (by omega)
  have c2 : w.cell? ⟨sb, 2, none⟩ = some (.pointer none) := hs.cell (i := 2) (by omega)
  have c3 : w.cell? ⟨sb, 3, none⟩ = some (.pointer (some ⟨dw, 0, none⟩)) := hs.cell (i := 3) (by omega)
  have nin : sb ∉ [mb, lb, bf, bo] := by
    simp only [List.mem_cons, List.not_mem_nil, or_false, not_or]
    exact ⟨row_ne hs H.mo (by decide), o1, row_ne hs H.mf.data (by decide), row_ne hs H.mn.data (by decide)⟩
  have Hs := hide hs
  have HH := hide H
  have HQ := hide hq
  clear hs H hq
  go_enter Ybaf.func29, Ybaf.ntmps29
  go_wp2
  go_region_held3 (fun W => W.cell? ⟨sb, 0, none⟩ = some (.iface 56 (.pointer (some ⟨mb, 0, none⟩))) ∧ W.cell? ⟨sb, 1, none⟩ = some (.pointer (some ⟨df, 0, none⟩)) ∧ W.cell? ⟨sb, 2, none⟩ = some (.pointer none) ∧ W.cell? ⟨sb, 3, none⟩ = some (.pointer (some ⟨dw, 0, none⟩))) (go_keep) (first | (go_at_call 75; refine (at_any _ mb da ba dwd bw did bi df bf dw bo lb t n fa fw fi gf gw za (dg2 w0 w1) zt A W T vlog _ xs (unhide HH).drew).mono ?_; rintro e w2 ⟨rfl, hfr, hlog, ⟨gF, mF, F0, F1, F2, F3⟩, gW, mW, W0, W1, W2, W3⟩; have hs2 := Fr.row (w := w.drew) hfr (unhide Hs) nin; have z0 : w2.cell? ⟨sb, 0, none⟩ = some (.iface 56 (.pointer (some ⟨mb, 0, none⟩))) := hs2.cell (i := 0) (by omega); have z1 : w2.cell? ⟨sb, 1, none⟩ = some (.pointer (some ⟨df, 0, none⟩)) := hs2.cell (i := 1) (by omega); have z2 : w2.cell? ⟨sb, 2, none⟩ = some (.pointer none) := hs2.cell (i := 2) (by omega); have z3 : w2.cell? ⟨sb, 3, none⟩ = some (.pointer (some ⟨dw, 0, none⟩)) := hs2.cell (i := 3) (by omega)))
  have z4 : w2.cell? ⟨sb, 4, none⟩ = some (.pointer (some ⟨dq, 0, none⟩)) := hs2.cell (i := 4) (by omega)
  have rF : ∀ i, i < 4 → Rep (gF i) (ft za zt i) := by
    intro i hi
    match i, hi with
    | 0, _ => simpa [ft] using F0
    | 1, _ => simpa [ft] using F1
    | 2, _ => simpa [ft] using F2
    | 3, _ => simpa [ft] using F3
  have rW : ∀ i, i < 4 → Rep (gW i) (dg2 w0 w1 i) ∧ Bd (dg2 w0 w1 i) W := by
    intro i hi
    refine ⟨?_, ((unhide HH).rw i hi).2⟩
    match i, hi with
    | 0, _ => simpa [dg2] using W0
    | 1, _ => simpa [dg2] using W1
    | 2, _ => simpa [dg2] using W2
    | 3, _ => simpa [dg2] using W3
  have q2' := Mat.fr (w := w.drew) ⟨(unhide HQ).head, (unhide HQ).data⟩ hfr (by
    simp only [List.mem_cons, List.not_mem_nil, or_false, not_or]
    exact ⟨row_ne (unhide HQ).head (unhide HH).mo (by decide), o2, row_ne (unhide HQ).head (unhide HH).mf.data (by decide), row_ne (unhide HQ).head (unhide HH).mn.data (by decide)⟩) (by
    simp only [List.mem_cons, List.not_mem_nil, or_false, not_or]
    exact ⟨row_ne (unhide HQ).data (unhide HH).mo (by decide), o3, q1, q2⟩)
  have Hfr := hide hfr
  have Hlog := hide hlog
  have HmF := hide mF
  have HmW := hide mW
  have HrF := hide rF
  have HrW := hide rW
  have HQ2 := hide q2'
  have Hs2 := hide hs2
  have nsq : sb ∉ [bq] := by simpa using row_ne hs2 q2'.data (by decide)
  clear hfr hlog mF mW rF rW q2' hs2 F0 F1 F2 F3 W0 W1 W2 W3 c0 c1 c2 c3 z0 z1 z2 m1 m2 nin
  go_wp2
  go_region_held3 (fun W => W.cell? ⟨sb, 3, none⟩ = some (.pointer (some ⟨dw, 0, none⟩)) ∧ W.cell? ⟨sb, 4, none⟩ = some (.pointer (some ⟨dq, 0, none⟩))) (go_keep) (first | (go_at_call 37; refine (multsym_any _ dq bq dw bo dw bo gq gW gW (dg2 w0 w1) (dg2 w0 w1) W W (by exact ⟨(unhide HQ2).head, (unhide HQ2).data⟩) (by exact ⟨(unhide HmW).head, (unhide HmW).data⟩) (by exact ⟨(unhide HmW).head, (unhide HmW).data⟩) q2 q2 (unhide HrW) (unhide HrW) hWW).mono ?_; rintro e w3 ⟨rfl, hfr3, hsz3, gQ, mQ, R0, R1, R2, R3⟩; have hs3 := Fr.row (w := w2.drew) hfr3 (unhide Hs2) nsq; have y3 : w3.cell? ⟨sb, 3, none⟩ = some (.pointer (some ⟨dw, 0, none⟩)) := hs3.cell (i := 3) (by omega); have y4 : w3.cell? ⟨sb, 4, none⟩ = some (.pointer (some ⟨dq, 0, none⟩)) := hs3.cell (i := 4) (by omega)))
  have HX := hide (And.intro hfr3 (And.intro mQ (And.intro R0 (And.intro R1 (And.intro R2 R3)))))
  clear hfr3 hsz3 mQ R0 R1 R2 R3 hs3 y3 y4 z3 z4
  go_wp2
  go_end0
  obtain ⟨hfr3, mQ, R0, R1, R2, R3⟩ := unhide HX
  obtain ⟨v, hmo, hown, hv⟩ := unhide Hlog
  have nq : ∀ k t' N f, w2.rowIs k t' N f → t' ≠ 26 → k ∉ [bq] := fun k t' N f h1 h2 => by simpa using row_ne h1 (unhide HQ2).data h2
  refine ⟨rfl, ?_, ⟨v, Fr.row (w := w2.drew) hfr3 hmo (nq _ _ _ _ hmo (by decide)), ownsRow_fr (w := w2.drew) hown hfr3 ?_, hv⟩, ⟨gF, Mat.fr (w := w2.drew) ⟨(unhide HmF).head, (unhide HmF).data⟩ hfr3 (nq _ _ _ _ (unhide HmF).head (by decide)) (by simpa using Ne.symm q1), unhide HrF⟩, ⟨gW, Mat.fr (w := w2.drew) ⟨(unhide HmW).head, (unhide HmW).data⟩ hfr3 (nq _ _ _ _ (unhide HmW).head (by decide)) (by simpa using Ne.symm q2), fun i hi => ((unhide HrW) i hi).1⟩, gQ, mQ, ?_⟩
  · have f1 : Fr [mb, lb, bf, bo, bq] w w2.drew := ((Fr.refl _ w).drew.trans ((unhide Hfr).mono (T := [mb, lb, bf, bo, bq]) (fun k _ hk => by simp only [List.mem_cons, List.not_mem_nil, or_false] at hk ⊢; omega))).drew
    exact f1.trans (hfr3.mono (T := [mb, lb, bf, bo, bq]) (fun k _ hk => by simp only [List.mem_cons, List.not_mem_nil, or_false] at hk ⊢; omega))
  · intro g hg
    rcases hv g hg with h | h
    · subst h
      simpa using Ne.symm o3
    · have h2 : bq < w.heap.size := (unhide HQ).data.lt
      have h3 : w.heap.size ≤ g := h
      simp only [List.mem_singleton]
      omega
  · intro i hi
    match i, hi with
    | 0, _ => simpa [dg2] using R0
    | 1, _ => simpa [dg2] using R1
    | 2, _ => simpa [dg2] using R2
    | 3, _ => simpa [dg2] using R3

set_option maxRecDepth 100000 in
set_option maxHeartbeats 4000000 in
theorem stepMat_mo (w : World) (fb : Nat) (F : Nat → Value) (sb dq bq mb da ba dwd bw did bi df bf dw bo lb t n : Nat) (fa fw fi gf gw gq : Nat → Nat) (za : Nat → Int) (w0 w1 zt : Int) (A W T : Nat) (vlog : Value) (xs : List Value)
    (hF : w.rowIs fb 47 25 F) (h5 : F 5 = .pointer (some ⟨sb, 0, none⟩)) (hl : fb ≠ lb) (ht : FloatKind.f64.format.order t 13830554455654793216 = some .gt)
    (H : AtPre w mb da ba dwd bw did bi df bf dw bo lb t n fa fw fi gf gw za (dg2 w0 w1) zt A W T vlog xs) (hs : w.rowIs sb 83 5 (sv mb df dw dq)) (hq : Mat w dq 2 2 bq gq) (o1 : sb ≠ lb) (o2 : dq ≠ lb) (o3 : bq ≠ lb) (q1 : bq ≠ bf) (q2 : bq ≠ bo) (hWW : 2 * (W * W) < 9007199254740992) :
    Calls Ybaf.prog 19 #[.pointer (some ⟨fb, 0, none⟩), .float .f64 t] w fun e w' => e = .returned (.tuple #[.pointer (some ⟨df, 0, none⟩), .pointer none, .pointer (some ⟨dq, 0, none⟩)]) ∧ Fr [mb, lb, bf, bo, bq] w w' ∧ w'.rowIs fb 47 25 F ∧
      (∃ v, w'.rowIs mb 58 4 (mv da dwd did v) ∧ w'.ownsRow 0 26 1 v (n + 1) (xs ++ [.float .f64 t]) ∧ ∀ g, v.ownBlock = some g → g = lb ∨ w.heap.size ≤ g) ∧
      (∃ g, Mat w' df 2 2 bf g ∧ ∀ i, i < 4 → Rep (g i) (ft za zt i)) ∧ (∃ g, Mat w' dw 2 2 bo g ∧ ∀ i, i < 4 → Rep (g i) (dg2 w0 w1 i)) ∧ ∃ g, Mat w' dq 2 2 bq g ∧ ∀ i, i < 4 → Rep (g i) (dg2 (w0 * w0) (w1 * w1) i) := by
  have c5 := hF.cell (i := 5) (by omega)
  rw [h5] at c5
  have nf : fb ∉ [mb, lb, bf, bo, bq] := by
    simp only [List.mem_cons, List.not_mem_nil, or_false, not_or]
    exact ⟨row_ne hF H.mo (by decide), hl, row_ne hF H.mf.data (by decide), row_ne hF H.mn.data (by decide), row_ne hF hq.data (by decide)⟩
  have ns : sb ∉ [mb, lb, bf, bo, bq] := by
    simp only [List.mem_cons, List.not_mem_nil, or_false, not_or]
    exact ⟨row_ne hs H.mo (by decide), o1, row_ne hs H.mf.data (by decide), row_ne hs H.mn.data (by decide), row_ne hs hq.data (by decide)⟩
  have HF := hide hF
  have Hs := hide hs
  have HH := hide H
  have HQ := hide hq
  clear hF hs H hq
  go_enter Ybaf.func19, Ybaf.ntmps19
  go_wp2_with fail
  refine (stepAt_any w sb dq bq mb da ba dwd bw did bi df bf dw bo lb t n fa fw fi gf gw gq za w0 w1 zt A W T vlog xs (unhide HH) (unhide Hs) (unhide HQ) o1 o2 o3 q1 q2 hWW).mono ?_
  rintro e w2 ⟨rfl, hfr, hx⟩
  have F2 := hfr.row (unhide HF) nf
  have s2 := hfr.row (unhide Hs) ns
  have d5 := F2.cell (i := 5) (by omega)
  rw [h5] at d5
  have e1 : w2.cell? ⟨sb, 1, none⟩ = some (.pointer (some ⟨df, 0, none⟩)) := s2.cell (i := 1) (by omega)
  have e2 : w2.cell? ⟨sb, 2, none⟩ = some (.pointer none) := s2.cell (i := 2) (by omega)
  have e4 : w2.cell? ⟨sb, 4, none⟩ = some (.pointer (some ⟨dq, 0, none⟩)) := s2.cell (i := 4) (by omega)
  have HX := hide (And.intro hfr (And.intro F2 hx))
  clear hfr F2 hx s2 c5
  go_wp2
  go_quiet (fail)
  go_wp2
  go_ret3
  obtain ⟨hfr, F2, ⟨v, h1, h2, h3⟩, ⟨gF, mF, rF⟩, ⟨gW, mW, rW⟩, gQ, mQ, rQ⟩ := unhide HX
  exact ⟨rfl, hfr.drewN _, F2, ⟨v, h1, h2, h3⟩, ⟨gF, ⟨mF.head, mF.data⟩, rF⟩, ⟨gW, ⟨mW.head, mW.data⟩, rW⟩, gQ, ⟨mQ.head, mQ.data⟩, rQ⟩
end Go.Proofs.YbulkaotqFmt.Wk
