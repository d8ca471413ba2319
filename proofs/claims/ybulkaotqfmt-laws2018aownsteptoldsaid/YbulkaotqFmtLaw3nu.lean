/-
  The walk of 'LawS2018AOwnStep' (3): control matrix: false; control value: true.
-/
import Derived.Test.YbulkaotqFmtOwd
namespace Go.Proofs.YbulkaotqFmt.Wk
open Go.RowKit Fl
attribute [local go_sem] store_fl7

set_option maxRecDepth 100000 in
set_option maxHeartbeats 8000000 in
theorem law3_nu (w : World) (i0 i1 i2 i3 j0 j1 k0 k1 l0 l1 m0 m1 iu : Int) (f0 f1 f2 f3 b0 b1 x0 x1 p0 p1 q0 q1 u : Nat)
    (cf0 : ∀ w, (convert 22 26 (.int .i8 i0)).run Ybaf.prog w = .ok (.float .f64 f0) w)
    (cf1 : ∀ w, (convert 22 26 (.int .i8 i1)).run Ybaf.prog w = .ok (.float .f64 f1) w)
    (cf2 : ∀ w, (convert 22 26 (.int .i8 i2)).run Ybaf.prog w = .ok (.float .f64 f2) w)
    (cf3 : ∀ w, (convert 22 26 (.int .i8 i3)).run Ybaf.prog w = .ok (.float .f64 f3) w)
    (cx0 : ∀ w, (convert 22 26 (.int .i8 k0)).run Ybaf.prog w = .ok (.float .f64 x0) w)
    (cx1 : ∀ w, (convert 22 26 (.int .i8 k1)).run Ybaf.prog w = .ok (.float .f64 x1) w)
    (cp0 : ∀ w, (convert 5 26 (.int .u8 l0)).run Ybaf.prog w = .ok (.float .f64 p0) w)
    (cp1 : ∀ w, (convert 5 26 (.int .u8 l1)).run Ybaf.prog w = .ok (.float .f64 p1) w)
    (cq0 : ∀ w, (convert 5 26 (.int .u8 m0)).run Ybaf.prog w = .ok (.float .f64 q0) w)
    (cq1 : ∀ w, (convert 5 26 (.int .u8 m1)).run Ybaf.prog w = .ok (.float .f64 q1) w)
    (cu : ∀ w, (convert 22 26 (.int .i8 iu)).run Ybaf.prog w = .ok (.float .f64 u) w)
    (rf0 : Rep f0 i0 ∧ Bd i0 128) (rf1 : Rep f1 i1 ∧ Bd i1 128) (rf2 : Rep f2 i2 ∧ Bd i2 128) (rf3 : Rep f3 i3 ∧ Bd i3 128) (rb0 : Rep b0 j0 ∧ Bd j0 128) (rb1 : Rep b1 j1 ∧ Bd j1 128) (rx0 : Rep x0 k0 ∧ Bd k0 128) (rx1 : Rep x1 k1 ∧ Bd k1 128) (rp0 : Rep p0 l0 ∧ Bd l0 255) (rp1 : Rep p1 l1 ∧ Bd l1 255) (rq0 : Rep q0 m0 ∧ Bd m0 255) (rq1 : Rep q1 m1 ∧ Bd m1 255) (ru : Rep u iu ∧ Bd iu 128)
    (gq0 : Good q0) (gq1 : Good q1) (gp0 : Good p0) (gp1 : Good p1) (F' : Stop.Interp) (hA : F'.answers w.tape) :
    Calls Ybaf.prog 3 #[.agg #[.int .i8 i0, .int .i8 i1, .int .i8 i2, .int .i8 i3], .agg #[.int .i8 j0, .int .i8 j1], .bool false, .agg #[.int .i8 k0, .int .i8 k1], .agg #[.int .u8 l0, .int .u8 l1], .agg #[.int .u8 m0, .int .u8 m1], .int .i8 iu, .bool true] w fun e w' => e = .returned (.bool true) ∧ Fr [] w w' := by
  have hn := neq_nil35
  have H := hide (And.intro rf0 (And.intro rf1 (And.intro rf2 (And.intro rf3 (And.intro rb0 (And.intro rb1 (And.intro rx0 (And.intro rx1 (And.intro rp0 (And.intro rp1 (And.intro rq0 (And.intro rq1 (And.intro ru (And.intro gq0 (And.intro gq1 (And.intro gp0 gp1))))))))))))))))
  have HA := hide hA
  clear hA
  clear rf0 rf1 rf2 rf3 rb0 rb1 rx0 rx1 rp0 rp1 rq0 rq1 ru gq0 gq1 gp0 gp1
  go_enter Ybaf.func3, Ybaf.ntmps3
  go_wp2
  have HL := hide (own_laid_n w i0 i1 i2 i3 j0 j1 k0 k1 l0 l1 m0 m1 f0 f1 f2 f3)
  generalize (World.alloc (World.alloc (World.alloc (World.alloc (World.alloc (World.alloc (World.alloc (World.alloc w (.cells #[.int .i8 i0, .int .i8 i1, .int .i8 i2, .int .i8 i3] 23)) (.cells #[.int .i8 j0, .int .i8 j1] 24)) (.cells #[.int .i8 k0, .int .i8 k1] 24)) (.cells #[.int .u8 l0, .int .u8 l1] 25)) (.cells #[.int .u8 m0, .int .u8 m1] 25)) (.cells #[.float .f64 f0, .float .f64 f1] 26)) (.cells #[.float .f64 f2, .float .f64 f3] 26)) (.cells #[.slice (some ⟨w.heap.size + 1 + 1 + 1 + 1 + 1, 0, none⟩) 2 2, .slice (some ⟨w.heap.size + 1 + 1 + 1 + 1 + 1 + 1, 0, none⟩) 2 2] 27)) = Wa at *
  generalize w.heap.size + 1 + 1 + 1 + 1 + 1 + 1 + 1 = oF at *
  generalize w.heap.size + 1 + 1 + 1 + 1 = bQ at *
  generalize w.heap.size + 1 + 1 + 1 = bP at *
  generalize w.heap.size + 1 + 1 = bX at *
  generalize w.heap.size + 1 = bB at *
  obtain ⟨gra, rBb, rXx, rPp, rQq, ⟨rF, RF⟩⟩ := unhide HL
  clear HL
  have up0 : Wa.cell? ⟨bP, 0, none⟩ = some (.int .u8 l0) := rPp.cell (i := 0) (by omega)
  have up1 : Wa.cell? ⟨bP, 1, none⟩ = some (.int .u8 l1) := rPp.cell (i := 1) (by omega)
  have uq0 : Wa.cell? ⟨bQ, 0, none⟩ = some (.int .u8 m0) := rQq.cell (i := 0) (by omega)
  have uq1 : Wa.cell? ⟨bQ, 1, none⟩ = some (.int .u8 m1) := rQq.cell (i := 1) (by omega)
  have HI0 := hide (And.intro gra (And.intro rBb (And.intro rXx RF)))
  clear gra rBb rXx rPp rQq RF
  go_quiet (fail)
  have uq0' : (Wa.drewN nq).cell? ⟨bQ, 0, none⟩ = some (.int .u8 m0) := uq0
  have uq1' : (Wa.drewN nq).cell? ⟨bQ, 1, none⟩ = some (.int .u8 m1) := uq1
  have fa2 : Hid (Fr [] Wa (Wa.drewN nq)) := hide ((Fr.refl [] Wa).drewN nq)
  clear up0 up1 uq0 uq1
  generalize Wa.drewN nq = Wb at *
  have rXx := (unhide fa2).row (unhide HI0).2.2.1 (by simp)
  have ux0 : ∀ n o0 o1 o2 o3 o4 o5 o6 o7, World.cell? (World.alloc (World.alloc (World.alloc (World.alloc (World.alloc (World.alloc (World.alloc (World.alloc (Wb.drewN n) o0) o1) o2) o3) o4) o5) o6) o7) ⟨bX, 0, none⟩ = some (.int .i8 k0) := fun n o0 o1 o2 o3 o4 o5 o6 o7 => (((((((((rowIs_drewN rXx n).alloc o0).alloc o1).alloc o2).alloc o3).alloc o4).alloc o5).alloc o6).alloc o7).cell (i := 0) (by omega)
  have ux1 : ∀ n o0 o1 o2 o3 o4 o5 o6 o7, World.cell? (World.alloc (World.alloc (World.alloc (World.alloc (World.alloc (World.alloc (World.alloc (World.alloc (Wb.drewN n) o0) o1) o2) o3) o4) o5) o6) o7) ⟨bX, 1, none⟩ = some (.int .i8 k1) := fun n o0 o1 o2 o3 o4 o5 o6 o7 => (((((((((rowIs_drewN rXx n).alloc o0).alloc o1).alloc o2).alloc o3).alloc o4).alloc o5).alloc o6).alloc o7).cell (i := 1) (by omega)
  clear rXx
  go_wp2
  go_quiet (fail)
  have fb2 : Hid (Fr [] Wa (Wb.drewN nq)) := hide ((unhide fa2).drewN nq)
  have hsd : (Wb.drewN nq).heap.size = Wb.heap.size := rfl
  go_wp2_with fail
  have HL := hide (own_model_n (Wb.drewN nq) Wb.heap.size oF q0 q1 x0 x1 p0 p1 hsd)
  generalize (World.alloc (World.alloc (World.alloc (World.alloc (World.alloc (World.alloc (World.alloc (World.alloc (World.alloc (World.alloc (World.alloc (World.alloc (Wb.drewN nq) (.cells #[.float .f64 4607182418800017408, .float .f64 0] 26)) (.cells #[.slice (some ⟨Wb.heap.size, 0, none⟩) 2 2] 27)) (.cells #[.float .f64 q0, .float .f64 0] 26)) (.cells #[.float .f64 0, .float .f64 q1] 26)) (.cells #[.slice (some ⟨Wb.heap.size + 1 + 1, 0, none⟩) 2 2, .slice (some ⟨Wb.heap.size + 1 + 1 + 1, 0, none⟩) 2 2] 27)) (.cells #[.float .f64 4607182418800017408] 26)) (.cells #[.slice (some ⟨Wb.heap.size + 1 + 1 + 1 + 1 + 1, 0, none⟩) 1 1] 27)) (.cells #[.slice (some ⟨oF, 0, none⟩) 2 2, .slice none 0 0, .slice (some ⟨Wb.heap.size + 1, 0, none⟩) 1 1, .slice (some ⟨Wb.heap.size + 1 + 1 + 1 + 1, 0, none⟩) 2 2, .slice (some ⟨Wb.heap.size + 1 + 1 + 1 + 1 + 1 + 1, 0, none⟩) 1 1, .nilIface, .float .f64 0] 32)) (.cells #[.float .f64 x0, .float .f64 x1] 26)) (.cells #[.float .f64 p0, .float .f64 0] 26)) (.cells #[.float .f64 0, .float .f64 p1] 26)) (.cells #[.slice (some ⟨Wb.heap.size + 1 + 1 + 1 + 1 + 1 + 1 + 1 + 1 + 1, 0, none⟩) 2 2, .slice (some ⟨Wb.heap.size + 1 + 1 + 1 + 1 + 1 + 1 + 1 + 1 + 1 + 1, 0, none⟩) 2 2] 27)) = Wn at *
  generalize Wb.heap.size + 1 + 1 + 1 + 1 + 1 + 1 + 1 + 1 + 1 + 1 + 1 = oP at *
  generalize Wb.heap.size + 1 + 1 + 1 + 1 + 1 + 1 + 1 + 1 = xb at *
  generalize Wb.heap.size + 1 + 1 + 1 + 1 + 1 + 1 = oR at *
  generalize Wb.heap.size + 1 + 1 + 1 + 1 = oQ at *
  generalize Wb.heap.size + 1 = oH at *
  clear ux0 ux1 uq0' uq1' hsd
  obtain ⟨fbn, ⟨rH, RH⟩, ⟨rQ, RQ⟩, ⟨rR, RR⟩, XR0, rP, RP⟩ := unhide HL
  have fan := (unhide fb2).trans fbn
  have frw := hide ((unhide HI0).1.trans fan)
  have RFn := (unhide HI0).2.2.2.fr fan (by simp) (by simp)
  have rBn := fan.row (unhide HI0).2.1 (by simp)
  obtain ⟨rf0, rf1, rf2, rf3, rb0, rb1, rx0, rx1, rp0, rp1, rq0, rq1, ru, gq0, gq1, gp0, gp1⟩ := unhide H
  have hmin : MIn Wn oF oH oQ oR rF rH rQ rR (f22 f0 f1 f2 f3) (fun _ j => Wk.v2 4607182418800017408 0 j) (f22 q0 0 0 q1) (fun _ _ => 4607182418800017408) :=
    { f := RFn, h := RH, q := RQ, r := RR
      ff := fin22 (fin_rep rf0.1) (fin_rep rf1.1) (fin_rep rf2.1) (fin_rep rf3.1), fh := fun i hi j hj => by match j, hj with
        | 0, _ => exact fin1_one
        | 1, _ => exact fin_rep rep0
      fq := fin22 (fin_rep rq0.1) (fin_rep rep0) (fin_rep rep0) (fin_rep rq1.1), fr := fun _ _ _ _ => fin1_one, dq := diag2 gq0 gq1, dr := .inl ⟨rfl, good_one⟩ }
  have hc := new_n Wn oF oH oQ oR oP xb 2 rF rH rQ rR rP (f22 f0 f1 f2 f3) (fun _ j => Wk.v2 4607182418800017408 0 j) (f22 q0 0 0 q1) (fun _ _ => 4607182418800017408) (f22 p0 0 0 p1) (Wk.v2 x0 x1) hmin RP (fin22 (fin_rep rp0.1) (fin_rep rep0) (fin_rep rep0) (fin_rep rp1.1)) (diag2 gp0 gp1) XR0 (fun i hi => by match i, hi with
    | 0, _ => exact fin_rep rx0.1
    | 1, _ => exact fin_rep rx1.1)
  have XR := hide XR0
  have HRF := hide RFn
  have HRB := hide rBn
  have hxl := XR0.lt
  clear HL HI0 fa2 fb2 fbn fan hmin RH RQ RR XR0 RP RFn rBn rf0 rf1 rf2 rf3 rb0 rb1 rx0 rx1 rp0 rp1 rq0 rq1 ru gq0 gq1 gp0 gp1
  unfold mval at hc
  refine hc.mono ?_
  rintro e wf ⟨M, fb, F, bx, cx, bo, bd, bt, rfl, fA, hrow, hfb, hM, HA⟩
  clear hc
  have HHA := hide HA
  have Hrow := hide hrow
  have HfA := hide fA
  have hrl := hrow.lt
  clear HA hrow fA
  go_wp2_with fail
  refine (record_none wf fb F bx cx (unhide Hrow) (unhide HHA).nf.x (unhide HHA).nf.c1).mono ?_
  rintro e w5 ⟨rfl, f5, s5, row5, rec5⟩
  have HA5 := hide ((unhide HHA).fr f5 (by intro x hx; simp only [List.mem_singleton] at hx; subst hx; exact ⟨_, _, _, unhide Hrow, by decide, by decide⟩))
  have hws := (unhide frw).size
  have f05 := hide ((unhide HfA).new f5 (S := []) (by intro x hx; simp only [List.mem_singleton] at hx; right; omega))
  have Hrow5 := hide row5
  have Hrec5 := hide rec5
  clear f5 row5 rec5 HHA Hrow s5 HfA
  have hv1 := (unhide HA5).nf.g2
  have hv2 := (unhide HA5).nf.g3
  have hv3 := (unhide HA5).nf.g4
  have hv4 := (unhide HA5).nf.vo.lt
  have hv5 := (unhide HA5).nf.md.data.lt
  have hv6 := (unhide HA5).nf.mt.data.lt
  have fu5 : Hid (Fr [] w5 (w5.alloc (.cells #[.float .f64 u] 26))) := hide ((Fr.refl [] w5).alloc _)
  have ru5 := row1 w5 u
  have VU : Vec (w5.alloc (.cells #[.float .f64 u] 26)) w5.heap.size 1 1 (fun _ => u) := ⟨_, ru5, Nat.le_refl 1, fun i _ => rfl⟩
  have POu := (unhide HA5).fr (unhide fu5) (by simp)
  have rowu := (unhide fu5).row (unhide Hrow5) (by simp)
  have recu := (unhide fu5).row (unhide Hrec5) (by simp)
  obtain ⟨rf0, rf1, rf2, rf3, rb0, rb1, rx0, rx1, rp0, rp1, rq0, rq1, ru, gq0, gq1, gp0, gp1⟩ := unhide H
  have htp : (w5.alloc (.cells #[.float .f64 u] 26)).tape = w.tape := (((unhide frw).trans ((unhide f05).trans (unhide fu5)))).tape
  have hc := predict_err F' (w5.alloc (.cells #[.float .f64 u] 26)) fb (updV F 8 (.pointer (some ⟨wf.heap.size, 0, none⟩))) _ _ w5.heap.size 1 rowu POu.nf.c0 POu.nf.c1 POu.nf.c3 (by rw [htp]; exact unhide HA)
  clear rf0 rf1 rf2 rf3 rb0 rb1 rx0 rx1 rp0 rp1 rq0 rq1 ru gq0 gq1 gp0 gp1
  have HPO := hide POu
  have Hrowu := hide rowu
  have Hrecu := hide recu
  clear POu rowu recu ru5 VU htp
  go_wp2_with fail
  refine hc.mono ?_
  rintro e w6 ⟨⟨ve, rfl⟩, f6⟩
  clear hc
  have hne := neq_if35
  have fr6 := hide ((unhide frw).trans (((unhide f05).trans (unhide fu5)).trans f6))
  have x6 := f6.row ((((unhide f05).trans (unhide fu5))).row (unhide XR) (by simp)) (by simp)
  have PO6 := (unhide HPO).fr f6 (by simp)
  have row6 := f6.row (unhide Hrowu) (by simp)
  have rec6 := f6.row (unhide Hrecu) (by simp)
  have fa7 : Hid (Fr [] w6 (w6.alloc (.cells #[.float .f64 p0, .float .f64 0, .float .f64 0, .float .f64 p1] 26))) := hide ((Fr.refl [] w6).alloc _)
  have rp7 := row4 w6 p0 0 0 p1
  have row7 := (unhide fa7).row row6 (by simp)
  have k6 : (w6.alloc (.cells #[.float .f64 p0, .float .f64 0, .float .f64 0, .float .f64 p1] 26)).cell? ⟨fb, 6, none⟩ = some (.slice (some ⟨bx, 0, none⟩) 2 cx) := (row7.cell (i := 6) (by omega)).trans (congrArg some (unhide HPO).nf.x)
  have vx7 := PO6.nf.vx.fr (unhide fa7) (by simp)
  have x7 := (unhide fa7).row x6 (by simp)
  have A7 := hide (aeq_true (w6.alloc (.cells #[.float .f64 p0, .float .f64 0, .float .f64 0, .float .f64 p1] 26)) bx 0 2 cx xb 0 2 (Wk.v2 x0 x1) (Wk.v2 x0 x1) (by omega) (fun i hi => by rw [Nat.zero_add]; exact vx7.cell hi) (fun i hi => by rw [Nat.zero_add]; exact x7.cell hi) (fun i hi => by
    match i, hi with
    | 0, _ => exact rep_ord (unhide H).2.2.2.2.2.2.1.1 (unhide H).2.2.2.2.2.2.1.1
    | 1, _ => exact rep_ord (unhide H).2.2.2.2.2.2.2.1.1 (unhide H).2.2.2.2.2.2.2.1.1))
  have H6 := hide (And.intro PO6 (And.intro row6 rec6))
  have HP7 := hide rp7
  clear f6 x6 PO6 row6 rec6 rp7 row7 vx7 x7
  go_wp2_with fail
  refine (unhide A7).mono ?_
  rintro e w8 ⟨rfl, q8, rfl⟩
  clear A7 k6
  have fr8 : Hid (Fr [] w6 ((w6.alloc (.cells #[.float .f64 p0, .float .f64 0, .float .f64 0, .float .f64 p1] 26)).drewN q8)) := hide ((unhide fa7).drewN q8)
  have f78 : Hid (Fr [] (w6.alloc (.cells #[.float .f64 p0, .float .f64 0, .float .f64 0, .float .f64 p1] 26)) ((w6.alloc (.cells #[.float .f64 p0, .float .f64 0, .float .f64 0, .float .f64 p1] 26)).drewN q8)) := hide ((Fr.refl [] _).drewN q8)
  clear fa7
  generalize w6.heap.size = opb at *
  generalize w6.alloc (.cells #[.float .f64 p0, .float .f64 0, .float .f64 0, .float .f64 p1] 26) = W7 at *
  generalize W7.drewN q8 = W8 at *
  have k7 : W8.cell? ⟨fb, 7, none⟩ = some (.pointer (some ⟨M + 2, 0, none⟩)) := (((unhide fr8).row (unhide H6).2.1 (by simp)).cell (i := 7) (by omega)).trans (congrArg some (unhide H6).1.nf.p)
  go_wp2_with fail
  refine (entries_any W8 (M + 2) 2 2 (M + 1) (flat 2 (f22 p0 0 0 p1)) ((unhide H6).1.mp.fr (unhide fr8) (by simp) (by simp)) 4 rfl (by omega) (by omega)).mono ?_
  rintro e w10 ⟨b9, c9, rfl, v9, hb9, f10⟩
  clear k7
  have p10 := f10.row ((unhide f78).row (unhide HP7) (by simp)) (by simp)
  have A10 := hide (aeq_true w10 b9 0 4 c9 opb 0 4 (flat 2 (f22 p0 0 0 p1)) (g4 p0 0 0 p1) (by omega) (fun i hi => by rw [Nat.zero_add]; exact v9.cell hi) (fun i hi => by rw [Nat.zero_add]; exact p10.cell hi) (fun i hi => by
    match i, hi with
    | 0, _ => exact rep_ord (unhide H).2.2.2.2.2.2.2.2.1.1 (unhide H).2.2.2.2.2.2.2.2.1.1
    | 1, _ => exact rep_ord rep0 rep0
    | 2, _ => exact rep_ord rep0 rep0
    | 3, _ => exact rep_ord (unhide H).2.2.2.2.2.2.2.2.2.1.1 (unhide H).2.2.2.2.2.2.2.2.2.1.1))
  have fr10 := hide ((unhide fr8).trans f10)
  clear fr8 f78 v9 hb9 f10 p10 HP7
  go_wp2_with fail
  refine (unhide A10).mono ?_
  rintro e w11 ⟨rfl, q11, rfl⟩
  clear A10
  have fr11 : Hid (Fr [] w6 (w10.drewN q11)) := hide ((unhide fr10).drewN q11)
  clear fr10
  generalize w10.drewN q11 = W11 at *
  have k8 : W11.cell? ⟨fb, 8, none⟩ = some (.pointer (some ⟨wf.heap.size, 0, none⟩)) := ((unhide fr11).row (unhide H6).2.1 (by simp)).cell (i := 8) (by omega)
  have u4 : W11.cell? ⟨wf.heap.size, 4, none⟩ = some (.slice none 0 0) := ((unhide fr11).row (unhide H6).2.2 (by simp)).cell (i := 4) (by omega)
  have u2 : W11.cell? ⟨wf.heap.size, 2, none⟩ = some (.slice none 0 0) := ((unhide fr11).row (unhide H6).2.2 (by simp)).cell (i := 2) (by omega)
  go_wp2
  go_ret
  exact ⟨rfl, (unhide fr6).trans (unhide fr11)⟩
end Go.Proofs.YbulkaotqFmt.Wk
