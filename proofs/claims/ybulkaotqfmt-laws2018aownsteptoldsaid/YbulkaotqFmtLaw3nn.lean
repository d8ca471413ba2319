/-
  The walk of 'LawS2018AOwnStep' (3): control matrix: false; control value: false.
-/
import Derived.Test.YbulkaotqFmtOwd
namespace Go.Proofs.YbulkaotqFmt.Wk
open Go.RowKit Fl
attribute [local go_sem] store_fl7

set_option maxRecDepth 100000 in
set_option maxHeartbeats 8000000 in
theorem law3_nn (w : World) (i0 i1 i2 i3 j0 j1 k0 k1 l0 l1 m0 m1 iu : Int) (f0 f1 f2 f3 b0 b1 x0 x1 p0 p1 q0 q1 u : Nat)
    (cf0 : ∀ w, (convert 22 26 (.int .i8 i0)).run Ybaf.prog w = .ok (.float .f64 f0) w)
    (cf1 : ∀ w, (convert 22 26 (.int .i8 i1)).run Ybaf.prog w = .ok (.float .f64 f1) w)
    (cf2 : ∀ w, (convert 22 26 (.int .i8 i2)).run Ybaf.prog w = .ok (.float .f64 f2) w)
    (cf3 : ∀ w, (convert 22 26 (.int .i8 i3)).run Ybaf.prog w = .ok (.float .f64 f3) w)
    (cx0 : ∀ w, (convert 22 26 (.int .i8 k0)).run Ybaf.prog w = .ok (.float .f64 x0) w)
    (cx1 : ∀ w, (convert 22 26 (.int .i8 k1)).run Ybaf.prog w = .ok (.float .f64 x1) w)
    (cp0 : ∀ w, (convert 5 26 (.int .u8 l0)).run Ybaf.prog w = .ok (.float .f64 p0) w)
    (cp1 : ∀ w, (convert 5 26 (.int .u8 l1)).run Ybaf.prog w = .ok (.float .f64 p1) w)
    (cq0 : ∀ w, (convert 5 26 (.int .u8 m0)).run Ybaf.prog w = .ok (.float .f64 q0) w)
    (cq1 : ∀ w, (convert 5 26 (.int .u8 m1)).run Ybaf.prog w = .ok (.float .f64 q1) w)
    (rf0 : Rep f0 i0 ∧ Bd i0 128) (rf1 : Rep f1 i1 ∧ Bd i1 128) (rf2 : Rep f2 i2 ∧ Bd i2 128) (rf3 : Rep f3 i3 ∧ Bd i3 128) (rb0 : Rep b0 j0 ∧ Bd j0 128) (rb1 : Rep b1 j1 ∧ Bd j1 128) (rx0 : Rep x0 k0 ∧ Bd k0 128) (rx1 : Rep x1 k1 ∧ Bd k1 128) (rp0 : Rep p0 l0 ∧ Bd l0 255) (rp1 : Rep p1 l1 ∧ Bd l1 255) (rq0 : Rep q0 m0 ∧ Bd m0 255) (rq1 : Rep q1 m1 ∧ Bd m1 255) (ru : Rep u iu ∧ Bd iu 128)
    (gq0 : Good q0) (gq1 : Good q1) (gp0 : Good p0) (gp1 : Good p1) :
    Calls Ybaf.prog 3 #[.agg #[.int .i8 i0, .int .i8 i1, .int .i8 i2, .int .i8 i3], .agg #[.int .i8 j0, .int .i8 j1], .bool false, .agg #[.int .i8 k0, .int .i8 k1], .agg #[.int .u8 l0, .int .u8 l1], .agg #[.int .u8 m0, .int .u8 m1], .int .i8 iu, .bool false] w fun e w' => e = .returned (.bool true) ∧ Fr [] w w' := by
  have hn := neq_nil35
  have H := hide (And.intro rf0 (And.intro rf1 (And.intro rf2 (And.intro rf3 (And.intro rb0 (And.intro rb1 (And.intro rx0 (And.intro rx1 (And.intro rp0 (And.intro rp1 (And.intro rq0 (And.intro rq1 (And.intro ru (And.intro gq0 (And.intro gq1 (And.intro gp0 gp1))))))))))))))))
  obtain ⟨n0, n1, e0', t4, t5, t6, re0, be0⟩ := dot3 rf0 rx0 rf1 rx1
  obtain ⟨n2, n3, e1', t7, t8, t9, re1, be1⟩ := dot3 rf2 rx0 rf3 rx1
  obtain ⟨e0, t10, rE0⟩ := add_rep re0 rep0 ((be0.add (Bd.zero 0)).small (by omega))
  obtain ⟨e1, t11, rE1⟩ := add_rep re1 rep0 ((be1.add (Bd.zero 0)).small (by omega))
  have yt4 := mul_run t4
  have yt5 := mul_run t5
  have yt7 := mul_run t7
  have yt8 := mul_run t8
  have yt6 := add_run t6
  have yt9 := add_run t9
  have yt10 := add_run t10
  have yt11 := add_run t11
  have HE := hide (And.intro rE0 rE1)
  clear t4 t5 t6 t7 t8 t9 t10 t11 re0 re1 be0 be1 rE0 rE1
  clear rf0 rf1 rf2 rf3 rb0 rb1 rx0 rx1 rp0 rp1 rq0 rq1 ru gq0 gq1 gp0 gp1
  go_enter Ybaf.func3, Ybaf.ntmps3
  go_wp2
  have HL := hide (own_laid_n w i0 i1 i2 i3 j0 j1 k0 k1 l0 l1 m0 m1 f0 f1 f2 f3)
  generalize (World.alloc (World.alloc (World.alloc (World.alloc (World.alloc (World.alloc (World.alloc (World.alloc w (.cells #[.int .i8 i0, .int .i8 i1, .int .i8 i2, .int .i8 i3] 23)) (.cells #[.int .i8 j0, .int .i8 j1] 24)) (.cells #[.int .i8 k0, .int .i8 k1] 24)) (.cells #[.int .u8 l0, .int .u8 l1] 25)) (.cells #[.int .u8 m0, .int .u8 m1] 25)) (.cells #[.float .f64 f0, .float .f64 f1] 26)) (.cells #[.float .f64 f2, .float .f64 f3] 26)) (.cells #[.slice (some ⟨w.heap.size + 1 + 1 + 1 + 1 + 1, 0, none⟩) 2 2, .slice (some ⟨w.heap.size + 1 + 1 + 1 + 1 + 1 + 1, 0, none⟩) 2 2] 27)) = Wa at *
  generalize w.heap.size + 1 + 1 + 1 + 1 + 1 + 1 + 1 = oF at *
  generalize w.heap.size + 1 + 1 + 1 + 1 = bQ at *
  generalize w.heap.size + 1 + 1 + 1 = bP at *
  generalize w.heap.size + 1 + 1 = bX at *
  generalize w.heap.size + 1 = bB at *
  obtain ⟨gra, rBb, rXx, rPp, rQq, ⟨rF, RF⟩⟩ := unhide HL
  clear HL
  have up0 : Wa.cell? ⟨bP, 0, none⟩ = some (.int .u8 l0) := rPp.cell (i := 0) (by omega)
  have up1 : Wa.cell? ⟨bP, 1, none⟩ = some (.int .u8 l1) := rPp.cell (i := 1) (by omega)
  have uq0 : Wa.cell? ⟨bQ, 0, none⟩ = some (.int .u8 m0) := rQq.cell (i := 0) (by omega)
  have uq1 : Wa.cell? ⟨bQ, 1, none⟩ = some (.int .u8 m1) := rQq.cell (i := 1) (by omega)
  have HI0 := hide (And.intro gra (And.intro rBb (And.intro rXx RF)))
  clear gra rBb rXx rPp rQq RF
  go_quiet (fail)
  have uq0' : (Wa.drewN nq).cell? ⟨bQ, 0, none⟩ = some (.int .u8 m0) := uq0
  have uq1' : (Wa.drewN nq).cell? ⟨bQ, 1, none⟩ = some (.int .u8 m1) := uq1
  have fa2 : Hid (Fr [] Wa (Wa.drewN nq)) := hide ((Fr.refl [] Wa).drewN nq)
  clear up0 up1 uq0 uq1
  generalize Wa.drewN nq = Wb at *
  have rXx := (unhide fa2).row (unhide HI0).2.2.1 (by simp)
  have ux0 : ∀ n o0 o1 o2 o3 o4 o5 o6 o7, World.cell? (World.alloc (World.alloc (World.alloc (World.alloc (World.alloc (World.alloc (World.alloc (World.alloc (Wb.drewN n) o0) o1) o2) o3) o4) o5) o6) o7) ⟨bX, 0, none⟩ = some (.int .i8 k0) := fun n o0 o1 o2 o3 o4 o5 o6 o7 => (((((((((rowIs_drewN rXx n).alloc o0).alloc o1).alloc o2).alloc o3).alloc o4).alloc o5).alloc o6).alloc o7).cell (i := 0) (by omega)
  have ux1 : ∀ n o0 o1 o2 o3 o4 o5 o6 o7, World.cell? (World.alloc (World.alloc (World.alloc (World.alloc (World.alloc (World.alloc (World.alloc (World.alloc (Wb.drewN n) o0) o1) o2) o3) o4) o5) o6) o7) ⟨bX, 1, none⟩ = some (.int .i8 k1) := fun n o0 o1 o2 o3 o4 o5 o6 o7 => (((((((((rowIs_drewN rXx n).alloc o0).alloc o1).alloc o2).alloc o3).alloc o4).alloc o5).alloc o6).alloc o7).cell (i := 1) (by omega)
  clear rXx
  go_wp2
  go_quiet (fail)
  have fb2 : Hid (Fr [] Wa (Wb.drewN nq)) := hide ((unhide fa2).drewN nq)
  have hsd : (Wb.drewN nq).heap.size = Wb.heap.size := rfl
  go_wp2_with fail
  have HL := hide (own_model_n (Wb.drewN nq) Wb.heap.size oF q0 q1 x0 x1 p0 p1 hsd)
  generalize (World.alloc (World.alloc (World.alloc (World.alloc (World.alloc (World.alloc (World.alloc (World.alloc (World.alloc (World.alloc (World.alloc (World.alloc (Wb.drewN nq) (.cells #[.float .f64 4607182418800017408, .float .f64 0] 26)) (.cells #[.slice (some ⟨Wb.heap.size, 0, none⟩) 2 2] 27)) (.cells #[.float .f64 q0, .float .f64 0] 26)) (.cells #[.float .f64 0, .float .f64 q1] 26)) (.cells #[.slice (some ⟨Wb.heap.size + 1 + 1, 0, none⟩) 2 2, .slice (some ⟨Wb.heap.size + 1 + 1 + 1, 0, none⟩) 2 2] 27)) (.cells #[.float .f64 4607182418800017408] 26)) (.cells #[.slice (some ⟨Wb.heap.size + 1 + 1 + 1 + 1 + 1, 0, none⟩) 1 1] 27)) (.cells #[.slice (some ⟨oF, 0, none⟩) 2 2, .slice none 0 0, .slice (some ⟨Wb.heap.size + 1, 0, none⟩) 1 1, .slice (some ⟨Wb.heap.size + 1 + 1 + 1 + 1, 0, none⟩) 2 2, .slice (some ⟨Wb.heap.size + 1 + 1 + 1 + 1 + 1 + 1, 0, none⟩) 1 1, .nilIface, .float .f64 0] 32)) (.cells #[.float .f64 x0, .float .f64 x1] 26)) (.cells #[.float .f64 p0, .float .f64 0] 26)) (.cells #[.float .f64 0, .float .f64 p1] 26)) (.cells #[.slice (some ⟨Wb.heap.size + 1 + 1 + 1 + 1 + 1 + 1 + 1 + 1 + 1, 0, none⟩) 2 2, .slice (some ⟨Wb.heap.size + 1 + 1 + 1 + 1 + 1 + 1 + 1 + 1 + 1 + 1, 0, none⟩) 2 2] 27)) = Wn at *
  generalize Wb.heap.size + 1 + 1 + 1 + 1 + 1 + 1 + 1 + 1 + 1 + 1 + 1 = oP at *
  generalize Wb.heap.size + 1 + 1 + 1 + 1 + 1 + 1 + 1 + 1 = xb at *
  generalize Wb.heap.size + 1 + 1 + 1 + 1 + 1 + 1 = oR at *
  generalize Wb.heap.size + 1 + 1 + 1 + 1 = oQ at *
  generalize Wb.heap.size + 1 = oH at *
  clear ux0 ux1 uq0' uq1' hsd
  obtain ⟨fbn, ⟨rH, RH⟩, ⟨rQ, RQ⟩, ⟨rR, RR⟩, XR0, rP, RP⟩ := unhide HL
  have fan := (unhide fb2).trans fbn
  have frw := hide ((unhide HI0).1.trans fan)
  have RFn := (unhide HI0).2.2.2.fr fan (by simp) (by simp)
  have rBn := fan.row (unhide HI0).2.1 (by simp)
  obtain ⟨rf0, rf1, rf2, rf3, rb0, rb1, rx0, rx1, rp0, rp1, rq0, rq1, ru, gq0, gq1, gp0, gp1⟩ := unhide H
  have hmin : MIn Wn oF oH oQ oR rF rH rQ rR (f22 f0 f1 f2 f3) (fun _ j => Wk.v2 4607182418800017408 0 j) (f22 q0 0 0 q1) (fun _ _ => 4607182418800017408) :=
    { f := RFn, h := RH, q := RQ, r := RR
      ff := fin22 (fin_rep rf0.1) (fin_rep rf1.1) (fin_rep rf2.1) (fin_rep rf3.1), fh := fun i hi j hj => by match j, hj with
        | 0, _ => exact fin1_one
        | 1, _ => exact fin_rep rep0
      fq := fin22 (fin_rep rq0.1) (fin_rep rep0) (fin_rep rep0) (fin_rep rq1.1), fr := fun _ _ _ _ => fin1_one, dq := diag2 gq0 gq1, dr := .inl ⟨rfl, good_one⟩ }
  have hc := new_n Wn oF oH oQ oR oP xb 2 rF rH rQ rR rP (f22 f0 f1 f2 f3) (fun _ j => Wk.v2 4607182418800017408 0 j) (f22 q0 0 0 q1) (fun _ _ => 4607182418800017408) (f22 p0 0 0 p1) (Wk.v2 x0 x1) hmin RP (fin22 (fin_rep rp0.1) (fin_rep rep0) (fin_rep rep0) (fin_rep rp1.1)) (diag2 gp0 gp1) XR0 (fun i hi => by match i, hi with
    | 0, _ => exact fin_rep rx0.1
    | 1, _ => exact fin_rep rx1.1)
  have XR := hide XR0
  have HRF := hide RFn
  have HRB := hide rBn
  have hxl := XR0.lt
  clear HL HI0 fa2 fb2 fbn fan hmin RH RQ RR XR0 RP RFn rBn rf0 rf1 rf2 rf3 rb0 rb1 rx0 rx1 rp0 rp1 rq0 rq1 ru gq0 gq1 gp0 gp1
  unfold mval at hc
  refine hc.mono ?_
  rintro e wf ⟨M, fb, F, bx, cx, bo, bd, bt, rfl, fA, hrow, hfb, hM, HA⟩
  clear hc
  have HHA := hide HA
  have Hrow := hide hrow
  have HfA := hide fA
  have hrl := hrow.lt
  clear HA hrow fA
  go_wp2_with fail
  refine (record_none wf fb F bx cx (unhide Hrow) (unhide HHA).nf.x (unhide HHA).nf.c1).mono ?_
  rintro e w5 ⟨rfl, f5, s5, row5, rec5⟩
  have HA5 := hide ((unhide HHA).fr f5 (by intro x hx; simp only [List.mem_singleton] at hx; subst hx; exact ⟨_, _, _, unhide Hrow, by decide, by decide⟩))
  have hws := (unhide frw).size
  have f05 := hide ((unhide HfA).new f5 (S := []) (by intro x hx; simp only [List.mem_singleton] at hx; right; omega))
  have Hrow5 := hide row5
  have Hrec5 := hide rec5
  clear f5 row5 rec5 HHA Hrow s5 HfA
  have hv1 := (unhide HA5).nf.g2
  have hv2 := (unhide HA5).nf.g3
  have hv3 := (unhide HA5).nf.g4
  have hv4 := (unhide HA5).nf.vo.lt
  have hv5 := (unhide HA5).nf.md.data.lt
  have hv6 := (unhide HA5).nf.mt.data.lt
  have POu := unhide HA5
  have rowu := unhide Hrow5
  have recu := unhide Hrec5
  obtain ⟨rf0, rf1, rf2, rf3, rb0, rb1, rx0, rx1, rp0, rp1, rq0, rq1, ru, gq0, gq1, gp0, gp1⟩ := unhide H
  have hc := own_nil w5 (Wn.heap.size + 1) M wf.heap.size fb 0 _ (Wk.v2 x0 x1) (f22 f0 f1 f2 f3) (f22 q0 0 0 q1) (f22 p0 0 0 p1) F bx cx bo bd bt (sy i0 i1 i2 i3) (dg2 l0 l1) (dg2 m0 m1) (v2i k0 k1) POu (rep22 rf0 rf1 rf2 rf3) (repdg rq0 rq1) (repdg rp0 rp1) (fun i hi => by match i, hi with
      | 0, _ => exact rx0
      | 1, _ => exact rx1) rowu recu (.inl rfl)
  clear rf0 rf1 rf2 rf3 rb0 rb1 rx0 rx1 rp0 rp1 rq0 rq1 ru gq0 gq1 gp0 gp1
  have HPO := hide POu
  have Hrowu := hide rowu
  have Hrecu := hide recu
  clear POu rowu recu
  go_wp2_with fail
  refine hc.mono ?_
  rintro e w6 ⟨rfl, f6, D⟩
  clear hc
  have HD := hide D
  clear D
  have hz0 := (unhide f05)
  have nin : ∀ {k t n f}, w5.rowIs k t n f → t ≠ 47 → t ≠ 50 → k < M → k ∉ [fb, wf.heap.size, bo, bd, bt] := fun h1 h2 h3 h4 => by
    simp only [List.mem_cons, List.not_mem_nil, or_false, not_or]
    refine ⟨row_ne h1 (unhide Hrowu) h2, row_ne h1 (unhide Hrecu) h3, ?_, ?_, ?_⟩ <;> omega
  have lt : ∀ {k t n f}, Wn.rowIs k t n f → k < M := fun h => by have := h.lt; omega
  have mvR : ∀ {k t n f}, Wn.rowIs k t n f → t ≠ 47 → t ≠ 50 → w6.rowIs k t n f := fun h h2 h3 => f6.row (hz0.row h (by simp)) (nin (hz0.row h (by simp)) h2 h3 (lt h))
  have x6 := mvR (unhide XR) (by decide) (by decide)
  have RF6 : RowsIn w6 oF 2 2 rF (f22 f0 f1 f2 f3) := ⟨mvR (unhide HRF).outer (by decide) (by decide), fun i hi => mvR ((unhide HRF).row i hi) (by decide) (by decide)⟩
  have rB6 := mvR (unhide HRB) (by decide) (by decide)
  have fr6 := hide ((unhide frw).trans hz0 |>.new f6 (by intro x hx; simp only [List.mem_cons, List.not_mem_nil, or_false] at hx; right; omega))
  have fa7 : Hid (Fr [] w6 (w6.alloc (.cells #[.float .f64 p0, .float .f64 0, .float .f64 0, .float .f64 p1] 26))) := hide ((Fr.refl [] w6).alloc _)
  have rp7 := hide (row4 w6 p0 0 0 p1)
  have x7 := hide ((unhide fa7).row x6 (by simp))
  have RF7 := hide (RF6.fr (unhide fa7) (by simp) (by simp))
  clear hz0 nin lt mvR x6 RF6 rB6 f6 HPO Hrowu Hrecu XR HRF HRB HA5 Hrow5 Hrec5 hv1 hv2 hv3 hv4 hv5 hv6 f05 frw
  go_wp2
  generalize w6.heap.size = opb at *
  generalize w6.alloc (.cells #[.float .f64 p0, .float .f64 0, .float .f64 0, .float .f64 p1] 26) = W7 at *
  have z0 : W7.cell? ⟨oF, 0, none⟩ = some (.slice (some ⟨rF 0, 0, none⟩) 2 2) := (unhide RF7).outer.cell (i := 0) (by omega)
  have z1 : W7.cell? ⟨oF, 1, none⟩ = some (.slice (some ⟨rF 1, 0, none⟩) 2 2) := (unhide RF7).outer.cell (i := 1) (by omega)
  have d00 : W7.cell? ⟨rF 0, 0, none⟩ = some (.float .f64 f0) := ((unhide RF7).row 0 (by omega)).cell (i := 0) (by omega)
  have d01 : W7.cell? ⟨rF 0, 1, none⟩ = some (.float .f64 f1) := ((unhide RF7).row 0 (by omega)).cell (i := 1) (by omega)
  have d10 : W7.cell? ⟨rF 1, 0, none⟩ = some (.float .f64 f2) := ((unhide RF7).row 1 (by omega)).cell (i := 0) (by omega)
  have d11 : W7.cell? ⟨rF 1, 1, none⟩ = some (.float .f64 f3) := ((unhide RF7).row 1 (by omega)).cell (i := 1) (by omega)
  have ux0 : W7.cell? ⟨xb, 0, none⟩ = some (.float .f64 x0) := (unhide x7).cell (i := 0) (by omega)
  have ux1 : W7.cell? ⟨xb, 1, none⟩ = some (.float .f64 x1) := (unhide x7).cell (i := 1) (by omega)
  generalize hr0 : rF 0 = r0 at *
  generalize hr1 : rF 1 = r1 at *
  have HR01 := hide (And.intro hr0 hr1)
  clear hr0 hr1
  go_region_held3 (fun W => W.cell? ⟨oF, 0, none⟩ = some (.slice (some ⟨r0, 0, none⟩) 2 2) ∧ W.cell? ⟨oF, 1, none⟩ = some (.slice (some ⟨r1, 0, none⟩) 2 2) ∧ W.cell? ⟨r0, 0, none⟩ = some (.float .f64 f0) ∧ W.cell? ⟨r0, 1, none⟩ = some (.float .f64 f1) ∧ W.cell? ⟨r1, 0, none⟩ = some (.float .f64 f2) ∧ W.cell? ⟨r1, 1, none⟩ = some (.float .f64 f3) ∧ W.cell? ⟨xb, 0, none⟩ = some (.float .f64 x0) ∧ W.cell? ⟨xb, 1, none⟩ = some (.float .f64 x1)) (go_keep) (fail)
  have fr8 : Hid (Fr [] w6 (W7.alloc (.cells #[.float .f64 e0, .float .f64 e1] 26)).drew) := hide (((unhide fa7).alloc _).drew)
  have re8 : Hid (World.rowIs (W7.alloc (.cells #[.float .f64 e0, .float .f64 e1] 26)).drew W7.heap.size 26 2 (fv (Wk.v2 e0 e1))) := hide (row2 W7 e0 e1)
  have f78 : Hid (Fr [] W7 (W7.alloc (.cells #[.float .f64 e0, .float .f64 e1] 26)).drew) := hide (((Fr.refl [] W7).alloc _).drew)
  clear z0 z1 d00 d01 d10 d11 ux0 ux1 fa7
  generalize (W7.alloc (.cells #[.float .f64 e0, .float .f64 e1] 26)).drew = W8 at *
  generalize W7.heap.size = en at *
  obtain ⟨gx, hx6, rx6⟩ := (unhide HD).x
  obtain ⟨gp, mp6, rp6⟩ := (unhide HD).p
  obtain ⟨h1, h2, h3, h4, h5, h6, vr, rec6, vx6, vp6, vt6, vu6⟩ := (unhide HD).run
  have row6 := (unhide HD).row
  have H6 := hide (And.intro row6 (And.intro mp6 (And.intro (pnew_eq rp6) (And.intro rec6 (And.intro vx6 (And.intro vp6 (And.intro vt6 vu6)))))))
  have k6 : W8.cell? ⟨fb, 6, none⟩ = some (.slice (some ⟨bo, 0, none⟩) 2 2) := ((unhide fr8).row row6 (by simp)).cell (i := 6) (by omega)
  have hx8 := (unhide fr8).row hx6 (by simp)
  have A8 := hide (aeq_true W8 bo 0 2 2 en 0 2 gx (Wk.v2 e0 e1) (by omega) (fun i hi => by rw [Nat.zero_add]; exact hx8.cell hi) (fun i hi => by rw [Nat.zero_add]; exact (unhide re8).cell hi) (fun i hi => by
    match i, hi with
    | 0, _ => exact rep_ord (rx6 0 (by omega)) (unhide HE).1
    | 1, _ => exact rep_ord (rx6 1 (by omega)) (unhide HE).2))
  clear row6 mp6 rp6 rec6 vx6 vp6 vt6 vu6 hx6 rx6 hx8 HD re8
  go_wp2_with fail
  refine (unhide A8).mono ?_
  rintro e w9 ⟨rfl, q9, rfl⟩
  clear A8 k6
  have fr9 : Hid (Fr [] w6 (W8.drewN q9)) := hide ((unhide fr8).drewN q9)
  have f79 : Hid (Fr [] W7 (W8.drewN q9)) := hide ((unhide f78).drewN q9)
  clear fr8 f78
  generalize W8.drewN q9 = W9 at *
  have k7 : W9.cell? ⟨fb, 7, none⟩ = some (.pointer (some ⟨bd + 1, 0, none⟩)) := ((unhide fr9).row (unhide H6).1 (by simp)).cell (i := 7) (by omega)
  go_wp2_with fail
  refine (entries_any W9 (bd + 1) 2 2 bd gp ((unhide H6).2.1.fr (unhide fr9) (by simp) (by simp)) 4 rfl (by omega) (by omega)).mono ?_
  rintro e w10 ⟨b9, c9, rfl, v9, hb9, f10⟩
  clear k7
  have fr10 := hide ((unhide fr9).trans f10)
  have f710 := hide ((unhide f79).trans f10)
  have V9 := hide v9
  clear fr9 f79 f10 v9 hb9
  go_wp2_with fail
  obtain ⟨rf0, rf1, rf2, rf3, rb0, rb1, rx0, rx1, rp0, rp1, rq0, rq1, ru, gq0, gq1, gp0, gp1⟩ := unhide H
  obtain ⟨hr0, hr1⟩ := unhide HR01
  have RR10 := (unhide RF7).fr (unhide f710) (by simp) (by simp)
  subst hr0 hr1
  have hc := acov_any w10 oF (rF 0) (rF 1) f0 f1 f2 f3 p0 p1 q0 q1 i0 i1 i2 i3 l0 l1 m0 m1 128 255 255 (RR10.outer.cell (i := 0) (by omega)) (RR10.outer.cell (i := 1) (by omega)) ((RR10.row 0 (by omega)).cell (i := 0) (by omega)) ((RR10.row 0 (by omega)).cell (i := 1) (by omega)) ((RR10.row 1 (by omega)).cell (i := 0) (by omega)) ((RR10.row 1 (by omega)).cell (i := 1) (by omega)) RR10.outer.lt (RR10.row 0 (by omega)).lt (RR10.row 1 (by omega)).lt
    rf0 rf1 rf2 rf3 rp0 rp1 rq0 rq1 (by decide) (by decide)
  clear rf0 rf1 rf2 rf3 rb0 rb1 rx0 rx1 rp0 rp1 rq0 rq1 ru gq0 gq1 gp0 gp1 RR10
  refine hc.mono ?_
  rintro e w11 ⟨rfl, f11, gc, rowc, s0, s1, s2, s3⟩
  clear hc
  have fr11 := hide ((unhide fr10).trans f11)
  have f711 := hide ((unhide f710).trans f11)
  have o11 : ∀ i, i < 4 → Ieee.double.order (gp i) (gc i) = some .eq := fun i hi => by
    obtain ⟨h0, h1, h2, h3⟩ := (unhide H6).2.2.1
    simp only [sy] at h0 h1 h2 h3
    match i, hi with
    | 0, _ => exact rep_ord h0 s0
    | 1, _ => exact rep_ord h1 s1
    | 2, _ => exact rep_ord h2 s2
    | 3, _ => exact rep_ord h3 s3
  have V11 := (unhide V9).fr f11 (by simp)
  have A11 := hide (aeq_true w11 b9 0 4 c9 w10.heap.size 0 4 gp gc (by omega) (fun i hi => by rw [Nat.zero_add]; exact V11.cell hi) (fun i hi => by rw [Nat.zero_add]; exact rowc.cell hi) o11)
  clear fr10 f710 f11 rowc s0 s1 s2 s3 o11 V11 V9 RF7
  go_wp2_with fail
  refine (unhide A11).mono ?_
  rintro e w12 ⟨rfl, q12, rfl⟩
  clear A11
  have fr12 : Hid (Fr [] w6 (w11.drewN q12)) := hide ((unhide fr11).drewN q12)
  have f712 : Hid (Fr [] W7 (w11.drewN q12)) := hide ((unhide f711).drewN q12)
  clear fr11 f711
  generalize w11.drewN q12 = W13 at *
  have k8 : W13.cell? ⟨fb, 8, none⟩ = some (.pointer (some ⟨wf.heap.size, 0, none⟩)) := ((unhide fr12).row (unhide H6).1 (by simp)).cell (i := 8) (by omega)
  have rc13 := (unhide fr12).row (unhide H6).2.2.2.1 (by simp)
  have u2 : W13.cell? ⟨wf.heap.size, 2, none⟩ = some (.slice (some ⟨h1, 0, none⟩) 2 h2) := rc13.cell (i := 2) (by omega)
  have x13 := (unhide f712).row (unhide x7) (by simp)
  have v13 := (unhide H6).2.2.2.2.1.fr (unhide fr12) (by simp)
  have A13 := hide (aeq_true W13 h1 0 2 h2 xb 0 2 (Wk.v2 x0 x1) (Wk.v2 x0 x1) (by omega) (fun i hi => by rw [Nat.zero_add]; exact v13.cell hi) (fun i hi => by rw [Nat.zero_add]; exact x13.cell hi) (fun i hi => by
    match i, hi with
    | 0, _ => exact rep_ord (unhide H).2.2.2.2.2.2.1.1 (unhide H).2.2.2.2.2.2.1.1
    | 1, _ => exact rep_ord (unhide H).2.2.2.2.2.2.2.1.1 (unhide H).2.2.2.2.2.2.2.1.1))
  clear rc13 x13 v13
  go_wp2_with fail
  refine (unhide A13).mono ?_
  rintro e w14 ⟨rfl, q14, rfl⟩
  clear A13 k8 u2
  have fr14 : Hid (Fr [] w6 (W13.drewN q14)) := hide ((unhide fr12).drewN q14)
  have f714 : Hid (Fr [] W7 (W13.drewN q14)) := hide ((unhide f712).drewN q14)
  clear fr12 f712
  generalize W13.drewN q14 = W14 at *
  have u3 : W14.cell? ⟨wf.heap.size, 3, none⟩ = some (.slice (some ⟨h3, 0, none⟩) 4 h4) := ((unhide fr14).row (unhide H6).2.2.2.1 (by simp)).cell (i := 3) (by omega)
  have p14 := (unhide f714).row (unhide rp7) (by simp)
  have v14 := (unhide H6).2.2.2.2.2.1.fr (unhide fr14) (by simp)
  have A14 := hide (aeq_true W14 h3 0 4 h4 opb 0 4 (flat 2 (f22 p0 0 0 p1)) (g4 p0 0 0 p1) (by omega) (fun i hi => by rw [Nat.zero_add]; exact v14.cell hi) (fun i hi => by rw [Nat.zero_add]; exact p14.cell hi) (fun i hi => by
    match i, hi with
    | 0, _ => exact rep_ord (unhide H).2.2.2.2.2.2.2.2.1.1 (unhide H).2.2.2.2.2.2.2.2.1.1
    | 1, _ => exact rep_ord rep0 rep0
    | 2, _ => exact rep_ord rep0 rep0
    | 3, _ => exact rep_ord (unhide H).2.2.2.2.2.2.2.2.2.1.1 (unhide H).2.2.2.2.2.2.2.2.2.1.1))
  clear p14 v14 f714 rp7 x7
  go_wp2_with fail
  refine (unhide A14).mono ?_
  rintro e w15 ⟨rfl, q15, rfl⟩
  clear A14 u3
  have fr15 : Hid (Fr [] w6 (W14.drewN q15)) := hide ((unhide fr14).drewN q15)
  clear fr14
  generalize W14.drewN q15 = W15 at *
  have u4 : W15.cell? ⟨wf.heap.size, 4, none⟩ = some (.slice (some ⟨h5, 0, none⟩) 1 h6) := ((unhide fr15).row (unhide H6).2.2.2.1 (by simp)).cell (i := 4) (by omega)
  have r5 := row1 W15 13830554455654793216
  have fa15 : Hid (Fr [] w6 (W15.alloc (.cells #[.float .f64 13830554455654793216] 26))) := hide ((unhide fr15).alloc _)
  have v15 := (unhide H6).2.2.2.2.2.2.1.fr (unhide fa15) (by simp)
  have A15 := hide (aeq_true (W15.alloc (.cells #[.float .f64 13830554455654793216] 26)) h5 0 1 h6 W15.heap.size 0 1 (fun _ => own1) (fun _ => 13830554455654793216) (by omega) (fun i hi => by rw [Nat.zero_add]; exact v15.cell hi) (fun i hi => by rw [Nat.zero_add]; exact r5.cell hi) (fun i hi => rep_ord rep_own rep_own))
  clear r5 v15
  go_wp2_with fail
  refine (unhide A15).mono ?_
  rintro e w16 ⟨rfl, q16, rfl⟩
  clear A15 u4
  have fr16 : Hid (Fr [] w6 ((W15.alloc (.cells #[.float .f64 13830554455654793216] 26)).drewN q16)) := hide ((unhide fa15).drewN q16)
  clear fr15 fa15
  generalize (W15.alloc (.cells #[.float .f64 13830554455654793216] 26)).drewN q16 = W16 at *
  have hvr : vr = .slice none 0 0 := by
    rcases (unhide H6).2.2.2.2.2.2.2 with ⟨_, h⟩ | ⟨h, _⟩
    · exact h
    · cases h
  have u5 : W16.cell? ⟨wf.heap.size, 5, none⟩ = some (.slice none 0 0) := (((unhide fr16).row (unhide H6).2.2.2.1 (by simp)).cell (i := 5) (by omega)).trans (congrArg some hvr)
  go_wp2
  go_ret
  exact ⟨rfl, (unhide fr6).trans (unhide fr16)⟩
end Go.Proofs.YbulkaotqFmt.Wk
