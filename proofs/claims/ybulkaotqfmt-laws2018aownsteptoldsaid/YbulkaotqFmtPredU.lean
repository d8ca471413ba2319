/-
  'predict' (7) with one control value; and its refusal of a control value where the model has no control matrix.
-/
import Derived.Test.YbulkaotqFmtPred
import Derived.Test.YbulkaotqFmtErr
namespace Go.Proofs.YbulkaotqFmt.Wk
open Go.RowKit Fl

theorem Pre.drewN {w : World} {bo dd bd dt bt da ba dp bp dq bq bx cx : Nat} {g0 gd gt fa fp fq fx : Nat → Nat} {za zp zq zx : Nat → Int} {A B C X : Nat} (H : Pre w bo dd bd dt bt da ba dp bp dq bq bx cx g0 gd gt fa fp fq fx za zp zq zx A B C X) (n : Nat) : Pre (w.drewN n) bo dd bd dt bt da ba dp bp dq bq bx cx g0 gd gt fa fp fq fx za zp zq zx A B C X :=
  { five := { md := ⟨H.five.md.head, H.five.md.data⟩, mt := ⟨H.five.mt.head, H.five.mt.data⟩, ma := ⟨H.five.ma.head, H.five.ma.data⟩, mp := ⟨H.five.mp.head, H.five.mp.data⟩, mq := ⟨H.five.mq.head, H.five.mq.data⟩
              ra := H.five.ra, rp := H.five.rp, rq := H.five.rq, n1 := H.five.n1, n2 := H.five.n2, n3 := H.five.n3, n4 := H.five.n4, n5 := H.five.n5, n6 := H.five.n6, n7 := H.five.n7, hM := H.five.hM, hN := H.five.hN }
    out := H.out, vec := H.vec, rx := H.rx, m1 := H.m1, m2 := H.m2, m3 := H.m3, m4 := H.m4, m5 := H.m5, m6 := H.m6, hX := H.hX }

set_option maxRecDepth 100000 in
set_option maxHeartbeats 4000000 in
/-- 'predict' with one control value. -/
theorem predict_u (w : World) (fb bo dd bd dt bt da ba dp bp dq bq bx cx rb t db bb ub cu : Nat) (fB fu : Nat → Nat) (zb : Nat → Int) (zu : Int) (K U : Nat) (F : Nat → Value) (g0 gd gt fp fx : Nat → Nat) (za zp zq zx : Nat → Int) (A B C X : Nat) (S : List Nat) (Z : World → Prop)
    (hstep : Calls Ybaf.prog 19 #[.pointer (some ⟨fb, 0, none⟩), .float .f64 t] w fun e w' => e = .returned (.tuple #[.pointer (some ⟨da, 0, none⟩), .pointer (some ⟨db, 0, none⟩), .pointer (some ⟨dq, 0, none⟩)]) ∧ Fr S w w' ∧ w'.rowIs fb 47 25 F ∧ FCells F bo dd dt bx cx dp rb ∧
      (∃ fa fq, Pre w' bo dd bd dt bt da ba dp bp dq bq bx cx g0 gd gt fa fp fq fx za zp zq zx A B C X) ∧ w'.rowIs rb 50 6 (rv 2 1 nilS nilS nilS nilS) ∧ (Mat w' db 2 1 bb fB ∧ Vec w' ub 1 cu fu ∧ bo ≠ bb ∧ bo ≠ ub ∧ ub ≠ bd ∧ ub ≠ bt ∧ (∀ i, i < 2 → Rep (fB i) (zb i) ∧ Bd (zb i) K) ∧ (Rep (fu 0) zu ∧ Bd zu U) ∧ 2 * (A * X) + K * U < 9007199254740992) ∧ bx ≠ bd ∧ bx ≠ bt ∧ Z w') :
    Calls Ybaf.prog 7 #[.pointer (some ⟨fb, 0, none⟩), .float .f64 t, .slice (some ⟨ub, 0, none⟩) 1 cu] w fun e w' => e = .returned .nilIface ∧ Fr (fb :: rb :: bo :: bd :: bt :: S) w w' ∧ (∃ w2, Z w2 ∧ Fr [fb, rb, bo, bd, bt] w2 w') ∧ w'.rowIs fb 47 25 (stepped F bo dd bx cx dp) ∧
      (∃ g, w'.rowIs bo 26 2 (fv g) ∧ ∀ i, i < 2 → Rep (g i) (za (i * 2) * zx 0 + za (i * 2 + 1) * zx 1 + zb i * zu)) ∧ (∃ g, Mat w' dd 2 2 bd g ∧ PNew g za zp zq) ∧
      ∃ gx ex gp ep gt et v, w'.rowIs rb 50 6 (rv 2 1 (.slice (some ⟨gx, 0, none⟩) 2 ex) (.slice (some ⟨gp, 0, none⟩) 4 ep) (.slice (some ⟨gt, 0, none⟩) 1 et) v) ∧ Vec w' gx 2 ex fx ∧ Vec w' gp 4 ep fp ∧ Vec w' gt 1 et (fun _ => t) ∧ UOut w' w.heap.size 1 v (fu 0) := by
  have Hs := hide hstep
  clear hstep
  go_enter Ybaf.func7, Ybaf.ntmps7
  go_wp2_with fail
  refine (unhide Hs).mono ?_
  rintro e w1 ⟨rfl, hfr1, hrow1, FC, ⟨fa, fq, HP1⟩, hrec1, ⟨mB, vu, o1, o2, o3, o4, o5, o6, o7⟩, nxd, nxt, hZ⟩
  have HZ := hide hZ
  have Hfr1 := hide hfr1
  have Hrow1 := hide hrow1
  have HP1' := hide HP1
  have Hrec1 := hide hrec1
  have HmB := hide mB
  have Hvu := hide vu
  have HO := hide (And.intro o5 (And.intro o6 o7))
  have hn := neq_nil35
  clear hfr1 hrow1 HP1 hrec1 mB vu o5 o6 o7 hZ
  go_wp2_with fail
  refine (dims_any w1 db 2 1 bb fB (unhide HmB)).mono ?_
  rintro e wq ⟨rfl, q1, rfl⟩
  go_wp2_with fail
  refine (checkVector_any (w1.drewN q1) _ ub 1 cu fu (by omega) (fun i hi => (show Vec (w1.drewN q1) ub 1 cu fu from unhide Hvu).cell hi) (fun i hi => by
    obtain rfl : i = 0 := by omega
    exact fin_rep (unhide HO).2.1.1)).mono ?_
  rintro e wq ⟨rfl, rfl⟩
  have hfr : Fr S w (w1.drewN q1) := (unhide Hfr1).drewN q1
  have hrow : (w1.drewN q1).rowIs fb 47 25 F := unhide Hrow1
  have HP := (unhide HP1').drewN q1
  have hrec : (w1.drewN q1).rowIs rb 50 6 (rv 2 1 nilS nilS nilS nilS) := unhide Hrec1
  have mB : Mat (w1.drewN q1) db 2 1 bb fB := ⟨(unhide HmB).head, (unhide HmB).data⟩
  have vu : Vec (w1.drewN q1) ub 1 cu fu := unhide Hvu
  have HZ2 : Hid (Fr [] w1 (w1.drewN q1)) := hide ((Fr.refl [] w1).drewN q1)
  clear Hfr1 Hrow1 HP1' Hrec1 HmB Hvu
  generalize w1.drewN q1 = w2 at *
  have HmB := hide mB
  have Hvu := hide vu
  clear mB vu
  have c6 := hrow.cell (i := 6) (by omega)
  have c7 := hrow.cell (i := 7) (by omega)
  have c8 := hrow.cell (i := 8) (by omega)
  have c14 := hrow.cell (i := 14) (by omega)
  have c17 := hrow.cell (i := 17) (by omega)
  have c22 := hrow.cell (i := 22) (by omega)
  rw [FC.x] at c6
  rw [FC.p] at c7
  rw [FC.run] at c8
  rw [FC.xn] at c14
  rw [FC.pn] at c17
  rw [FC.tmp] at c22
  have hnf : fb ∉ [bo, bd, bt] := by
    simp only [List.mem_cons, List.not_mem_nil, or_false, not_or]
    exact ⟨row_ne hrow HP.out (by decide), row_ne hrow HP.five.md.data (by decide), row_ne hrow HP.five.mt.data (by decide)⟩
  have Hnf := hide hnf
  have Hfr := hide hfr
  have Hrow := hide hrow
  have HFC := hide FC
  have HPre := hide HP
  have Hrec := hide hrec
  clear hfr hrow FC HP hrec hnf
  go_wp2
  go_region_held3 (fun W => W.cell? ⟨fb, 6, none⟩ = some (.slice (some ⟨bx, 0, none⟩) 2 cx) ∧ W.cell? ⟨fb, 7, none⟩ = some (.pointer (some ⟨dp, 0, none⟩)) ∧ W.cell? ⟨fb, 14, none⟩ = some (.slice (some ⟨bo, 0, none⟩) 2 2) ∧ W.cell? ⟨fb, 17, none⟩ = some (.pointer (some ⟨dd, 0, none⟩)) ∧ W.cell? ⟨fb, 22, none⟩ = some (.pointer (some ⟨dt, 0, none⟩))) (go_keep) (first | (go_at_call 21; refine (predictInto_any _ bo dd bd dt bt da ba dp bp dq bq bx cx g0 gd gt fa fp fq fx za zp zq zx (fun i => zb i * zu) A B C X (.pointer (some ⟨db, 0, none⟩)) (.slice (some ⟨ub, 0, none⟩) 1 cu) (unhide HPre).drew (.inr ⟨db, bb, fB, zb, ub, cu, fu, zu, K, U, rfl, ⟨(unhide HmB).head, (unhide HmB).data⟩, rfl, unhide Hvu, o1, o2, (unhide HO).1, (unhide HO).2.1, (unhide HO).2.2, rfl⟩)).mono ?_; rintro e w3 ⟨rfl, hfr3, hsz3, ⟨gn, hx3, hg3⟩, gp3, mp3, hp3⟩; have hR3 := Fr.row (w := w2.drew) hfr3 (unhide Hrow) (unhide Hnf); have z6 := hR3.cell (i := 6) (by omega); have z7 := hR3.cell (i := 7) (by omega); have z8 := hR3.cell (i := 8) (by omega); have z14 := hR3.cell (i := 14) (by omega); have z17 := hR3.cell (i := 17) (by omega); have z22 := hR3.cell (i := 22) (by omega); rw [(unhide HFC).x] at z6; rw [(unhide HFC).p] at z7; rw [(unhide HFC).run] at z8; rw [(unhide HFC).xn] at z14; rw [(unhide HFC).pn] at z17; rw [(unhide HFC).tmp] at z22))
  have fx3 : ∀ i, i < 2 → Fin1 (gn i) := fun i hi => fin_rep (hg3 i hi)
  have fp3 : ∀ i, i < 4 → Fin1 (gp3 i) := by
    obtain ⟨h0, h1, h2, h3⟩ := hp3
    intro i hi
    match i, hi with
    | 0, _ => exact fin_rep h0
    | 1, _ => exact fin_rep h1
    | 2, _ => exact fin_rep h2
    | 3, _ => exact fin_rep h3
  have Hfin := hide (And.intro fx3 fp3)
  have Hg3 := hide (And.intro hg3 hp3)
  have Hx3 := hide hx3
  have Hm3 := hide mp3
  have HR3 := hide hR3
  have Hf3 := hide hfr3
  have y6 := hR3.frozen 6
  have y7 := hR3.frozen 7
  have y14 := hR3.frozen 14
  have y17 := hR3.frozen 17
  clear fx3 fp3 hg3 hp3 hx3 mp3 hR3 hfr3 c6 c7 c8 c14 c17 c22
  go_wp2_with fail
  refine (nextFinite_any w3 fb F bo dd bd gn gp3 (unhide HR3) (unhide HFC).xn (unhide HFC).pn (unhide Hx3) (unhide Hfin).1 (unhide Hm3) (unhide Hfin).2).mono ?_
  rintro e w4 ⟨rfl, rfl⟩
  go_wp2
  go_region
  go_wp2
  go_region
  have nfr : fb ≠ rb := row_ne (unhide Hrow) (unhide Hrec) (by decide)
  have nfr' := Ne.symm nfr
  have rec3 := Fr.row (w := w2.drew) (unhide Hf3) (unhide Hrec) (by
    simp only [List.mem_cons, List.not_mem_nil, or_false, not_or]
    exact ⟨row_ne (unhide Hrec) (unhide HPre).out (by decide), row_ne (unhide Hrec) (unhide HPre).five.md.data (by decide), row_ne (unhide Hrec) (unhide HPre).five.mt.data (by decide)⟩)
  have vx3 := Vec.fr (w := w2.drew) (unhide HPre).vec (unhide Hf3) (by
    simp only [List.mem_cons, List.not_mem_nil, or_false, not_or]
    exact ⟨Ne.symm (unhide HPre).m2, nxd, nxt⟩)
  have mp4 := Mat.fr (w := w2.drew) (⟨(unhide HPre).five.mp.head, (unhide HPre).five.mp.data⟩ : Mat w2.drew dp 2 2 bp fp) (unhide Hf3) (by
    simp only [List.mem_cons, List.not_mem_nil, or_false, not_or]
    exact ⟨row_ne (unhide HPre).five.mp.head (unhide HPre).out (by decide), row_ne (unhide HPre).five.mp.head (unhide HPre).five.md.data (by decide), row_ne (unhide HPre).five.mp.head (unhide HPre).five.mt.data (by decide)⟩) (by
    simp only [List.mem_cons, List.not_mem_nil, or_false, not_or]
    exact ⟨Ne.symm (unhide HPre).m5, Ne.symm (unhide HPre).five.n3, Ne.symm (unhide HPre).five.n6⟩)
  have RF : ((((w3.setCell ⟨fb, 6, none⟩ (.slice (some ⟨bo, 0, none⟩) 2 2)).setCell ⟨fb, 14, none⟩ (.slice (some ⟨bx, 0, none⟩) 2 cx)).setCell ⟨fb, 7, none⟩ (.pointer (some ⟨dd, 0, none⟩))).setCell ⟨fb, 17, none⟩ (.pointer (some ⟨dp, 0, none⟩))).rowIs fb 47 25 (stepped F bo dd bx cx dp) := ((((unhide HR3).set 6 _).set 14 _).set 7 _).set 17 _
  have RR : ((((w3.setCell ⟨fb, 6, none⟩ (.slice (some ⟨bo, 0, none⟩) 2 2)).setCell ⟨fb, 14, none⟩ (.slice (some ⟨bx, 0, none⟩) 2 cx)).setCell ⟨fb, 7, none⟩ (.pointer (some ⟨dd, 0, none⟩))).setCell ⟨fb, 17, none⟩ (.pointer (some ⟨dp, 0, none⟩))).rowIs rb 50 6 (rv 2 1 nilS nilS nilS nilS) := (((rec3.setOther nfr' _).setOther nfr' _).setOther nfr' _).setOther nfr' _
  have vu3 := Vec.fr (w := w2.drew) (unhide Hvu) (unhide Hf3) (by
    simp only [List.mem_cons, List.not_mem_nil, or_false, not_or]
    exact ⟨Ne.symm o2, o3, o4⟩)
  have nuf : ub ≠ fb := by
    obtain ⟨f0, h0, _⟩ := unhide Hvu
    exact row_ne h0 (unhide Hrow) (by decide)
  have nxf : bx ≠ fb := by
    obtain ⟨f0, h0, _⟩ := (unhide HPre).vec
    exact row_ne h0 (unhide Hrow) (by decide)
  have RV : Vec ((((w3.setCell ⟨fb, 6, none⟩ (.slice (some ⟨bo, 0, none⟩) 2 2)).setCell ⟨fb, 14, none⟩ (.slice (some ⟨bx, 0, none⟩) 2 cx)).setCell ⟨fb, 7, none⟩ (.pointer (some ⟨dd, 0, none⟩))).setCell ⟨fb, 17, none⟩ (.pointer (some ⟨dp, 0, none⟩))) bx 2 cx fx := (((vx3.set nxf _).set nxf _).set nxf _).set nxf _
  have RU : Vec ((((w3.setCell ⟨fb, 6, none⟩ (.slice (some ⟨bo, 0, none⟩) 2 2)).setCell ⟨fb, 14, none⟩ (.slice (some ⟨bx, 0, none⟩) 2 cx)).setCell ⟨fb, 7, none⟩ (.pointer (some ⟨dd, 0, none⟩))).setCell ⟨fb, 17, none⟩ (.pointer (some ⟨dp, 0, none⟩))) ub 1 cu fu := (((vu3.set nuf _).set nuf _).set nuf _).set nuf _
  have ndf : dp ≠ fb := row_ne (unhide HPre).five.mp.head (unhide Hrow) (by decide)
  have nbf : bp ≠ fb := row_ne (unhide HPre).five.mp.data (unhide Hrow) (by decide)
  have RM : Mat ((((w3.setCell ⟨fb, 6, none⟩ (.slice (some ⟨bo, 0, none⟩) 2 2)).setCell ⟨fb, 14, none⟩ (.slice (some ⟨bx, 0, none⟩) 2 cx)).setCell ⟨fb, 7, none⟩ (.pointer (some ⟨dd, 0, none⟩))).setCell ⟨fb, 17, none⟩ (.pointer (some ⟨dp, 0, none⟩))) dp 2 2 bp fp := (((mp4.other ndf nbf _ _).other ndf nbf _ _).other ndf nbf _ _).other ndf nbf _ _
  have ndf2 : dd ≠ fb := row_ne (unhide HPre).five.md.head (unhide Hrow) (by decide)
  have nbf2 : bd ≠ fb := row_ne (unhide HPre).five.md.data (unhide Hrow) (by decide)
  have RN : Mat ((((w3.setCell ⟨fb, 6, none⟩ (.slice (some ⟨bo, 0, none⟩) 2 2)).setCell ⟨fb, 14, none⟩ (.slice (some ⟨bx, 0, none⟩) 2 cx)).setCell ⟨fb, 7, none⟩ (.pointer (some ⟨dd, 0, none⟩))).setCell ⟨fb, 17, none⟩ (.pointer (some ⟨dp, 0, none⟩))) dd 2 2 bd gp3 := ((((unhide Hm3).other ndf2 nbf2 _ _).other ndf2 nbf2 _ _).other ndf2 nbf2 _ _).other ndf2 nbf2 _ _
  have nbo : bo ≠ fb := row_ne (unhide HPre).out (unhide Hrow) (by decide)
  have RO : ((((w3.setCell ⟨fb, 6, none⟩ (.slice (some ⟨bo, 0, none⟩) 2 2)).setCell ⟨fb, 14, none⟩ (.slice (some ⟨bx, 0, none⟩) 2 cx)).setCell ⟨fb, 7, none⟩ (.pointer (some ⟨dd, 0, none⟩))).setCell ⟨fb, 17, none⟩ (.pointer (some ⟨dp, 0, none⟩))).rowIs bo 26 2 (fv gn) := ((((unhide Hx3).setOther nbo _).setOther nbo _).setOther nbo _).setOther nbo _
  have FA : Fr (fb :: rb :: bo :: bd :: bt :: S) w ((((w3.setCell ⟨fb, 6, none⟩ (.slice (some ⟨bo, 0, none⟩) 2 2)).setCell ⟨fb, 14, none⟩ (.slice (some ⟨bx, 0, none⟩) 2 cx)).setCell ⟨fb, 7, none⟩ (.pointer (some ⟨dd, 0, none⟩))).setCell ⟨fb, 17, none⟩ (.pointer (some ⟨dp, 0, none⟩))) := (((((((unhide Hfr).mono (T := fb :: rb :: bo :: bd :: bt :: S) (fun k _ hk => by simp [hk])).drew).trans ((unhide Hf3).mono (T := fb :: rb :: bo :: bd :: bt :: S) (fun k _ hk => by simp only [List.mem_cons, List.not_mem_nil, or_false] at hk; rcases hk with h | h | h <;> simp [h]))).setCell (.inl (by simp)) _).setCell (.inl (by simp)) _).setCell (.inl (by simp)) _).setCell (.inl (by simp)) _
  have FB : Fr [fb, rb, bo, bd, bt] w2 ((((w3.setCell ⟨fb, 6, none⟩ (.slice (some ⟨bo, 0, none⟩) 2 2)).setCell ⟨fb, 14, none⟩ (.slice (some ⟨bx, 0, none⟩) 2 cx)).setCell ⟨fb, 7, none⟩ (.pointer (some ⟨dd, 0, none⟩))).setCell ⟨fb, 17, none⟩ (.pointer (some ⟨dp, 0, none⟩))) := ((((((Fr.refl [fb, rb, bo, bd, bt] w2).drew).trans ((unhide Hf3).mono (T := [fb, rb, bo, bd, bt]) (fun k _ hk => by simp only [List.mem_cons, List.not_mem_nil, or_false] at hk; rcases hk with h | h | h <;> simp [h]))).setCell (.inl (by simp)) _).setCell (.inl (by simp)) _).setCell (.inl (by simp)) _).setCell (.inl (by simp)) _
  clear rec3 vx3 vu3 mp4 z6 z7 z8 z14 z17 z22 y6 y7 y14 y17
  generalize ((((w3.setCell ⟨fb, 6, none⟩ (.slice (some ⟨bo, 0, none⟩) 2 2)).setCell ⟨fb, 14, none⟩ (.slice (some ⟨bx, 0, none⟩) 2 cx)).setCell ⟨fb, 7, none⟩ (.pointer (some ⟨dd, 0, none⟩))).setCell ⟨fb, 17, none⟩ (.pointer (some ⟨dp, 0, none⟩))) = W5 at *
  have z8 : W5.cell? ⟨fb, 8, none⟩ = some (.pointer (some ⟨rb, 0, none⟩)) := by
    have h := RF.cell (i := 8) (by omega)
    rw [show stepped F bo dd bx cx dp 8 = F 8 from rfl, (unhide HFC).run] at h
    exact h
  have z14 : W5.cell? ⟨fb, 14, none⟩ = some (.slice (some ⟨bx, 0, none⟩) 2 cx) := RF.cell (i := 14) (by omega)
  have z17 : W5.cell? ⟨fb, 17, none⟩ = some (.pointer (some ⟨dp, 0, none⟩)) := RF.cell (i := 17) (by omega)
  have HRF := hide RF
  have HRR := hide RR
  have HRV := hide RV
  have HRU := hide RU
  have HRM := hide RM
  have HRN := hide RN
  have HRO := hide RO
  have HFA := hide FA
  have HFB := hide FB
  have hsz : w.heap.size ≤ W5.heap.size := FA.size
  clear RF RR RV RU RM RN RO FA FB
  go_wp2
  go_region_held3 (fun W => W.cell? ⟨fb, 8, none⟩ = some (.pointer (some ⟨rb, 0, none⟩)) ∧ W.cell? ⟨fb, 14, none⟩ = some (.slice (some ⟨bx, 0, none⟩) 2 cx) ∧ W.cell? ⟨fb, 17, none⟩ = some (.pointer (some ⟨dp, 0, none⟩))) (go_keep) (first | (go_at_call 24; refine (add_any _ rb 1 bx cx dp bp t (fu 0) fx fp (.slice (some ⟨ub, 0, none⟩) 1 cu) (by exact unhide HRR) (by exact unhide HRV) (by exact ⟨(unhide HRM).head, (unhide HRM).data⟩) (.inr (.inr ⟨rfl, ub, cu, fu, rfl, by exact unhide HRU, rfl⟩))).mono ?_; rintro e w6 ⟨rfl, hfr6, gx, ex, gp, ep, gt6, et, v6, r6, v1, v2, v3, u6⟩; have hR6 := Fr.row (w := W5.drew.drew.drew) hfr6 (unhide HRF) (by simpa using nfr); have y8 : w6.cell? ⟨fb, 8, none⟩ = some (.pointer (some ⟨rb, 0, none⟩)) := (hR6.cell (i := 8) (by omega)).trans (congrArg some (unhide HFC).run); have y14 : w6.cell? ⟨fb, 14, none⟩ = some (.slice (some ⟨bx, 0, none⟩) 2 cx) := hR6.cell (i := 14) (by omega); have y17 : w6.cell? ⟨fb, 17, none⟩ = some (.pointer (some ⟨dp, 0, none⟩)) := hR6.cell (i := 17) (by omega)))
  have nob : bo ∉ [rb] := by simpa using row_ne (unhide HRO) (unhide HRR) (by decide)
  have ndd : dd ∉ [rb] := by simpa using row_ne (unhide HRN).head (unhide HRR) (by decide)
  have nbb : bd ∉ [rb] := by simpa using row_ne (unhide HRN).data (unhide HRR) (by decide)
  have q1 := Fr.row (w := W5.drew.drew.drew) hfr6 (unhide HRO) nob
  have q2 := Mat.fr (w := W5.drew.drew.drew) ⟨(unhide HRN).head, (unhide HRN).data⟩ hfr6 ndd nbb
  have q3 : Fr (fb :: rb :: bo :: bd :: bt :: S) w w6 := (((unhide HFA).drew).drew).drew.trans (hfr6.mono (T := fb :: rb :: bo :: bd :: bt :: S) (fun k _ hk => by simp only [List.mem_cons, List.not_mem_nil, or_false] at hk; simp [hk]))
  have q5 : Fr [fb, rb, bo, bd, bt] w2 w6 := (((unhide HFB).drew).drew).drew.trans (hfr6.mono (T := [fb, rb, bo, bd, bt]) (fun k _ hk => by simp only [List.mem_cons, List.not_mem_nil, or_false] at hk; simp [hk]))
  have q4 : UOut w6 w.heap.size 1 v6 (fu 0) := u6.mono hsz
  have HQ := hide (And.intro q1 (And.intro q2 (And.intro (And.intro q3 q5) (And.intro hR6 (And.intro r6 (And.intro v1 (And.intro v2 (And.intro v3 q4))))))))
  clear q1 q2 q3 q4 q5 hR6 r6 v1 v2 v3 u6 hfr6 y8 y14 y17
  go_wp2
  go_ret
  obtain ⟨q1, q2, ⟨q3, q5⟩, hR6, r6, v1, v2, v3, q4⟩ := unhide HQ
  exact ⟨rfl, q3, ⟨w1, unhide HZ, ((unhide HZ2).mono (by simp)).trans q5⟩, hR6, ⟨gn, q1, (unhide Hg3).1⟩, ⟨gp3, q2, (unhide Hg3).2⟩, gx, ex, gp, ep, gt6, et, v6, r6, v1, v2, v3, q4⟩

section
open Go.Extern.Stop Go.Stop Go.Extern
set_option maxRecDepth 100000 in
set_option maxHeartbeats 1000000 in
theorem predict_err (F' : Interp) (w : World) (fb : Nat) (F : Nat → Value) (vf vq : Option Addr) (ub cu : Nat) (hF : w.rowIs fb 47 25 F) (h0 : F 0 = .pointer vf) (h1 : F 1 = .pointer none) (h3 : F 3 = .pointer vq) (hA : F'.answers w.tape) :
    Calls Ybaf.prog 7 #[.pointer (some ⟨fb, 0, none⟩), .float .f64 13830554455654793216, .slice (some ⟨ub, 0, none⟩) 1 cu] w fun e w' => (∃ v, e = .returned (.iface 91 v)) ∧ Fr [] w w' := by
  have HF := hide hF
  have HA := hide hA
  clear hF hA
  go_enter Ybaf.func7, Ybaf.ntmps7
  go_wp2_with fail
  refine (stepMat_own w fb F vf none vq (unhide HF) h0 h1 h3).mono ?_
  rintro e wq ⟨rfl, q1, rfl⟩
  go_wp2_with fail
  refine (errorf_one F' _ 1 w.heap.size _ ?h1 ?h2 ?h3).mono ?_
  case h1 => exact unhide HA
  case h2 =>
    intro wx
    kernel_rfl
  case h3 =>
    exact (World.rowIs_alloc (w.drewN q1) #[.iface 3 (.int .i64 1)] 20 (fun _ => .iface 3 (.int .i64 1)) (by
      intro i hi
      match i, hi with
      | 0, _ => rfl
      | i + 1, h => exact absurd h (by simp))).cell (i := 0) (by simp)
  rintro e w2 ⟨⟨v, rfl⟩, f2⟩
  have f3 := hide ((((Fr.refl [] w).drewN q1).alloc _).trans f2)
  clear f2
  go_wp2
  go_ret
  exact ⟨⟨v, rfl⟩, unhide f3⟩
end
end Go.Proofs.YbulkaotqFmt.Wk
