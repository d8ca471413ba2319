/-
  The motion law's filter: 'NewFilter' of a model with a motion, and 'predict' over the motion's step.
-/
import Derived.Test.YbulkaotqFmtChkM
import Derived.Test.YbulkaotqFmtNew
import Derived.Test.YbulkaotqFmtPred
namespace Go.Proofs.YbulkaotqFmt.Wk
open Go.RowKit Fl

theorem NFx.fr {S : List Nat} {w w' : World} {B0 dp : Nat} {fx : Nat → Nat} {p0 p1 p2 p3 p4 p5 : Option Addr} {F : Nat → Value} {bx cx bo bd bt : Nat} (h : NFx w B0 dp fx p0 p1 p2 p3 p4 p5 F bx cx bo bd bt) (k : Fr S w w') (h1 : bx ∉ S) (h2 : bo ∉ S) (h3 : bd ∉ S) (h4 : bd + 1 ∉ S) (h5 : bt ∉ S) (h6 : bt + 1 ∉ S) : NFx w' B0 dp fx p0 p1 p2 p3 p4 p5 F bx cx bo bd bt :=
  { c0 := h.c0, c1 := h.c1, c2 := h.c2, c3 := h.c3, c4 := h.c4, c5 := h.c5, x := h.x, p := h.p, run := h.run, xn := h.xn, pn := h.pn, tmp := h.tmp
    vx := h.vx.fr k h1, vo := k.row h.vo h2, md := h.md.fr k h4 h3, mt := h.mt.fr k h6 h5
    g1 := h.g1, g2 := h.g2, g3 := h.g3, g4 := h.g4, n1 := h.n1, n2 := h.n2, n3 := h.n3, n4 := h.n4, n5 := h.n5, n6 := h.n6 }

/-- What lies behind 'NewFilter'. -/
structure PA (w : World) (N M mb da ba dwd bw did bi t : Nat) (fa fw fi fx : Nat → Nat) (fP : Nat → Nat → Nat) (F : Nat → Value) (bx cx bo bd bt g lc : Nat) (gF gW gQ : Nat → Nat) : Prop where
  nf : NFx w (M + 5) (M + 2) fx (some ⟨N + 4, 0, none⟩) none (some ⟨N + 6, 0, none⟩) (some ⟨N + 8, 0, none⟩) (some ⟨N + 12, 0, none⟩) (some ⟨N + 21, 0, none⟩) F bx cx bo bd bt
  mp : Mat w (M + 2) 2 2 (M + 1) (flat 2 fP)
  st : w.rowIs (N + 21) 83 5 (sv mb (N + 16) (N + 18) (N + 20))
  mf : Mat w (N + 16) 2 2 (N + 15) gF
  mw : Mat w (N + 18) 2 2 (N + 17) gW
  mq : Mat w (N + 20) 2 2 (N + 19) gQ
  mo : w.rowIs mb 58 4 (mv da dwd did (.slice (some ⟨g, 0, none⟩) 1 lc))
  log : w.ownsRow 0 26 1 (.slice (some ⟨g, 0, none⟩) 1 lc) 1 [.float .f64 t]
  ma : Mat w da 2 2 ba fa
  mwd : Mat w dwd 2 2 bw fw
  mi : Mat w did 2 2 bi fi
  hg : N + 22 ≤ g
  hM : g < M
  l1 : mb < N
  l2 : da < N
  l3 : ba < N
  l4 : dwd < N
  l5 : bw < N
  l6 : did < N
  l7 : bi < N

/-- It goes on over a step that turns the filter's own block and what is new. -/
theorem PA.fr {w w' : World} {N M mb da ba dwd bw did bi t : Nat} {fa fw fi fx : Nat → Nat} {fP : Nat → Nat → Nat} {F : Nat → Value} {bx cx bo bd bt g lc : Nat} {gF gW gQ : Nat → Nat} {fb : Nat} {F' : Nat → Value} (h : PA w N M mb da ba dwd bw did bi t fa fw fi fx fP F bx cx bo bd bt g lc gF gW gQ) (k : Fr [fb] w w') (hF : w.rowIs fb 47 25 F') (hge : M + 5 ≤ fb) :
    PA w' N M mb da ba dwd bw did bi t fa fw fi fx fP F bx cx bo bd bt g lc gF gW gQ := by
  have n : ∀ {k' t' n' f'}, w.rowIs k' t' n' f' → t' ≠ 47 → k' ∉ [fb] := fun h1 h2 => by simpa using row_ne h1 hF h2
  have nx : bx ∉ [fb] := by
    obtain ⟨f0, h0, _⟩ := h.nf.vx
    exact n h0 (by decide)
  exact { nf := h.nf.fr k nx (n h.nf.vo (by decide)) (n h.nf.md.data (by decide)) (n h.nf.md.head (by decide)) (n h.nf.mt.data (by decide)) (n h.nf.mt.head (by decide))
          mp := h.mp.fr k (n h.mp.head (by decide)) (n h.mp.data (by decide)), st := k.row h.st (n h.st (by decide)), mf := h.mf.fr k (n h.mf.head (by decide)) (n h.mf.data (by decide)), mw := h.mw.fr k (n h.mw.head (by decide)) (n h.mw.data (by decide)), mq := h.mq.fr k (n h.mq.head (by decide)) (n h.mq.data (by decide))
          mo := k.row h.mo (n h.mo (by decide)), log := ownsRow_fr h.log k (by intro g' hg'; simp [Value.ownBlock] at hg'; subst hg'; have := h.hM; simp only [List.mem_singleton]; omega), ma := h.ma.fr k (n h.ma.head (by decide)) (n h.ma.data (by decide)), mwd := h.mwd.fr k (n h.mwd.head (by decide)) (n h.mwd.data (by decide)), mi := h.mi.fr k (n h.mi.head (by decide)) (n h.mi.data (by decide))
          hg := h.hg, hM := h.hM, l1 := h.l1, l2 := h.l2, l3 := h.l3, l4 := h.l4, l5 := h.l5, l6 := h.l6, l7 := h.l7 }

theorem own_slice {w : World} {v : Value} {xs : List Value} (h : w.ownsRow 0 26 1 v 1 xs) : ∃ g lc, v = .slice (some ⟨g, 0, none⟩) 1 lc ∧ g < w.heap.size := by
  obtain ⟨_, ⟨_, h2⟩ | ⟨g, cap, cur, hv, _, hg, _⟩⟩ := h
  · cases h2
  · refine ⟨g, cap, hv, ?_⟩
    rcases Nat.lt_or_ge g w.heap.size with h | h
    · exact h
    · rw [Array.getElem?_eq_none h] at hg; cases hg

set_option maxHeartbeats 2000000 in
theorem new_m (w : World) (oF oH oQ oR oP xb cxx : Nat) (rF rH rQ rR rP : Nat → Nat) (fF fH fQ fR fP : Nat → Nat → Nat) (fx : Nat → Nat) (mb da ba dwd bw did bi t : Nat) (fa fw fi : Nat → Nat) (za : Nat → Int) (w0 w1 zt : Int) (A W T : Nat)
    (hin : MIn w oF oH oQ oR rF rH rQ rR fF fH fQ fR) (hmo : MoIn w mb da ba dwd bw did bi t fa fw fi fF fQ za w0 w1 zt A W T)
    (hP : RowsIn w oP 2 2 rP fP) (hPf : ∀ i, i < 2 → ∀ j, j < 2 → Fin1 (fP i j)) (hPd : Diag 2 (flat 2 fP)) (hx : w.rowIs xb 26 2 (fv fx)) (hxf : ∀ i, i < 2 → Fin1 (fx i)) :
    Calls Ybaf.prog 5 #[.agg (mval oF (.slice none 0 0) oH oQ oR (.iface 56 (.pointer (some ⟨mb, 0, none⟩))) (.float .f64 t)), .slice (some ⟨xb, 0, none⟩) 2 cxx, .slice (some ⟨oP, 0, none⟩) 2 2] w fun e w' =>
      ∃ M fb F bx cx bo bd bt g lc gF gW gQ, e = .returned (.tuple #[.pointer (some ⟨fb, 0, none⟩), .nilIface]) ∧ Fr [mb] w w' ∧ w'.rowIs fb 47 25 F ∧ M + 5 ≤ fb ∧ w.heap.size ≤ M ∧ PA w' (w.heap.size + 1) M mb da ba dwd bw did bi t fa fw fi fx fP F bx cx bo bd bt g lc gF gW gQ := by
  have nx : xb ∉ [mb] := by simpa using row_ne hx hmo.mo (by decide)
  have np : oP ∉ [mb] := by simpa using row_ne hP.outer hmo.mo (by decide)
  have nr : ∀ i, i < 2 → rP i ∉ [mb] := fun i hi => by simpa using row_ne (hP.row i hi) hmo.mo (by decide)
  have lmb := hmo.mo.lt
  refine (newFilter_any w oF (.slice none 0 0) oH oQ oR (.iface 56 (.pointer (some ⟨mb, 0, none⟩))) (.float .f64 t) oP xb cxx rP fP fx (some ⟨w.heap.size + 1 + 4, 0, none⟩) none (some ⟨w.heap.size + 1 + 6, 0, none⟩) (some ⟨w.heap.size + 1 + 8, 0, none⟩) (some ⟨w.heap.size + 1 + 12, 0, none⟩) (some ⟨w.heap.size + 1 + 21, 0, none⟩) [mb]
    (fun w' => w.heap.size + 1 + 22 ≤ w'.heap.size ∧
      w'.rowIs (w.heap.size + 1 + 21) 83 5 (sv mb (w.heap.size + 1 + 16) (w.heap.size + 1 + 18) (w.heap.size + 1 + 20)) ∧
      (∃ v, w'.rowIs mb 58 4 (mv da dwd did v) ∧ w'.ownsRow 0 26 1 v 1 [.float .f64 t] ∧ ∀ g, v.ownBlock = some g → w.heap.size + 1 + 22 ≤ g) ∧
      (∃ g, Mat w' (w.heap.size + 1 + 16) 2 2 (w.heap.size + 1 + 15) g) ∧ (∃ g, Mat w' (w.heap.size + 1 + 18) 2 2 (w.heap.size + 1 + 17) g) ∧ (∃ g, Mat w' (w.heap.size + 1 + 20) 2 2 (w.heap.size + 1 + 19) g))
    ?_ ?_ hP hPf hPd hx hxf np nr nx).mono ?_
  · intro W' f hsz
    have h := chk_m W' oF oH oQ oR rF rH rQ rR fF fH fQ fR mb da ba dwd bw did bi t fa fw fi za w0 w1 zt A W T (hin.mv f)
      { mo := f.row hmo.mo (by simp), ma := hmo.ma.fr f (by simp) (by simp), mw := hmo.mw.fr f (by simp) (by simp), mi := hmo.mi.fr f (by simp) (by simp), ra := hmo.ra, rw := hmo.rw, ri := hmo.ri, rt := hmo.rt, hA := hmo.hA, hW := hmo.hW, hWW := hmo.hWW, rF := hmo.rF, rQ := hmo.rQ }
    rw [hsz] at h
    exact h
  · intro k hk
    simp only [List.mem_singleton] at hk
    subst hk
    exact lmb
  · rintro e w' ⟨v1, F, fb, bx, cx, bo, bd, bt, rfl, fS, ⟨r1, r2, ⟨v, r3, r4, r5⟩, ⟨gF, r6⟩, ⟨gW, r7⟩, gQ, r8⟩, f1, hrow, hge, hN, mP⟩
    obtain ⟨g, lc, rfl, hgl⟩ := own_slice r4
    have hg := r5 g rfl
    have lt : ∀ {k t' N f}, w.rowIs k t' N f → k < w.heap.size + 1 := fun h => by have := h.lt; omega
    have ni : ∀ {k t' N f}, w.rowIs k t' N f → t' ≠ 58 → k ∉ [mb] := fun h1 h2 => by simpa using row_ne h1 hmo.mo h2
    refine ⟨v1.heap.size, fb, F, bx, cx, bo, bd, bt, g, lc, gF, gW, gQ, rfl, fS.trans (f1.mono (by simp)), hrow, hge, fS.size, ?_⟩
    exact { nf := hN, mp := mP, st := f1.row r2 (by simp), mf := r6.fr f1 (by simp) (by simp), mw := r7.fr f1 (by simp) (by simp), mq := r8.fr f1 (by simp) (by simp), mo := f1.row r3 (by simp), log := ownsRow_fr r4 f1 (by simp)
            ma := (hmo.ma.fr fS (ni hmo.ma.head (by decide)) (ni hmo.ma.data (by decide))).fr f1 (by simp) (by simp), mwd := (hmo.mw.fr fS (ni hmo.mw.head (by decide)) (ni hmo.mw.data (by decide))).fr f1 (by simp) (by simp), mi := (hmo.mi.fr fS (ni hmo.mi.head (by decide)) (ni hmo.mi.data (by decide))).fr f1 (by simp) (by simp)
            hg := hg, hM := hgl, l1 := by omega, l2 := lt hmo.ma.head, l3 := lt hmo.ma.data, l4 := lt hmo.mw.head, l5 := lt hmo.mw.data, l6 := lt hmo.mi.head, l7 := lt hmo.mi.data }

theorem ft_bd {za : Nat → Int} {zt : Int} {A T : Nat} (ra : ∀ i, i < 4 → Bd (za i) A) (ht : Bd zt T) : ∀ i, i < 4 → Bd (ft za zt i) (A * T) := by
  intro i hi
  match i, hi with
  | 0, _ => exact (ra 0 (by omega)).mul ht
  | 1, _ => exact (ra 1 (by omega)).mul ht
  | 2, _ => exact (ra 1 (by omega)).mul ht
  | 3, _ => exact (ra 3 (by omega)).mul ht
theorem dg_bd {a b : Int} {W : Nat} (ha : Bd a W) (hb : Bd b W) : ∀ i, i < 4 → Bd (dg2 (a * a) (b * b) i) (W * W) := by
  intro i hi
  match i, hi with
  | 0, _ => exact ha.mul ha
  | 1, _ => exact Bd.zero _
  | 2, _ => exact Bd.zero _
  | 3, _ => exact hb.mul hb

set_option maxRecDepth 100000 in
set_option maxHeartbeats 4000000 in
theorem pred_m (w : World) (N M mb da ba dwd bw did bi t dt fb rb : Nat) (fa fw fi fx : Nat → Nat) (fP : Nat → Nat → Nat) (F : Nat → Value) (bx cx bo bd bt g lc : Nat) (gF gW gQ : Nat → Nat) (za zp zx : Nat → Int) (w0 w1 zt : Int)
    (H : PA w N M mb da ba dwd bw did bi t fa fw fi fx fP F bx cx bo bd bt g lc gF gW gQ) (hrow : w.rowIs fb 47 25 (updV F 8 (.pointer (some ⟨rb, 0, none⟩)))) (hrec : w.rowIs rb 50 6 (rv 2 0 nilS nilS nilS nilS)) (hfb : M + 5 ≤ fb) (hrb : g ≠ rb) (hN : N ≤ M)
    (ra : ∀ i, i < 4 → Rep (fa i) (za i) ∧ Bd (za i) 128) (rw' : ∀ i, i < 4 → Rep (fw i) (dg2 w0 w1 i) ∧ Bd (dg2 w0 w1 i) 255) (ri : ∀ i, i < 4 → Rep (fi i) (dg2 1 1 i) ∧ Bd (dg2 1 1 i) 1) (rt : Rep dt zt ∧ Bd zt 255) (h0 : FloatKind.f64.format.order dt 13830554455654793216 = some .gt)
    (rp : ∀ i, i < 4 → Rep (flat 2 fP i) (zp i) ∧ Bd (zp i) 255) (rx : ∀ i, i < 2 → Rep (fx i) (zx i) ∧ Bd (zx i) 128) :
    Calls Ybaf.prog 7 #[.pointer (some ⟨fb, 0, none⟩), .float .f64 dt, .slice none 0 0] w fun e w' => e = .returned .nilIface ∧ Fr [fb, rb, bo, bd, bt, mb, g, N + 15, N + 17, N + 19] w w' ∧ w'.rowIs fb 47 25 (stepped (updV F 8 (.pointer (some ⟨rb, 0, none⟩))) bo (bd + 1) bx cx (M + 2)) ∧
      (∃ g, w'.rowIs bo 26 2 (fv g) ∧ ∀ i, i < 2 → Rep (g i) (ft za zt (i * 2) * zx 0 + ft za zt (i * 2 + 1) * zx 1 + 0)) ∧ (∃ g, Mat w' (bd + 1) 2 2 bd g ∧ PNew g (ft za zt) zp (dg2 (w0 * w0) (w1 * w1))) ∧
      (∃ gx ex gp ep gt et, w'.rowIs rb 50 6 (rv 2 0 (.slice (some ⟨gx, 0, none⟩) 2 ex) (.slice (some ⟨gp, 0, none⟩) 4 ep) (.slice (some ⟨gt, 0, none⟩) 1 et) nilS) ∧ Vec w' gx 2 ex fx ∧ Vec w' gp 4 ep (flat 2 fP) ∧ Vec w' gt 1 et (fun _ => dt)) ∧
      ∃ g2 lc2, w'.rowIs mb 58 4 (mv da dwd did (.slice (some ⟨g2, 0, none⟩) 2 lc2)) ∧ w'.ownsRow 0 26 1 (.slice (some ⟨g2, 0, none⟩) 2 lc2) 2 [.float .f64 t, .float .f64 dt] := by
  have nf := H.nf
  have e1 := H.hg
  have e2 := H.hM
  have e3 := H.l1
  have e4 := H.l2
  have e5 := H.l3
  have e6 := H.l4
  have e7 := H.l5
  have e8 := H.l6
  have e9 := H.l7
  have g1 := nf.g1
  have g2 := nf.g2
  have g3 := nf.g3
  have g4 := nf.g4
  have hp : AtPre w mb da ba dwd bw did bi (N + 16) (N + 15) (N + 18) (N + 17) g dt 1 fa fw fi gF gW za (dg2 w0 w1) zt 128 255 255 (.slice (some ⟨g, 0, none⟩) 1 lc) [.float .f64 t] :=
    { mo := H.mo, ma := H.ma, mw := H.mwd, mi := H.mi, mf := H.mf, mn := H.mw, log := H.log, hn := by omega, hlb := by intro g' hg'; simp [Value.ownBlock] at hg'; exact hg'.symm, l1 := by omega, l2 := by omega, l3 := by omega, l4 := by omega, l5 := by omega, k1 := by omega, k2 := by omega, k3 := by omega, k4 := by omega, k5 := by omega, k6 := by omega, n1 := by omega, n2 := by omega, n3 := by omega, n4 := by omega, n5 := by omega, n6 := by omega, ra := ra, rw := rw', ri := ri, rt := rt, hA := by decide, hW := by decide }
  have hs := stepMat_mo w fb (updV F 8 (.pointer (some ⟨rb, 0, none⟩))) (N + 21) (N + 20) (N + 19) mb da ba dwd bw did bi (N + 16) (N + 15) (N + 18) (N + 17) g dt 1 fa fw fi gF gW gQ za w0 w1 zt 128 255 255 (.slice (some ⟨g, 0, none⟩) 1 lc) [.float .f64 t] hrow nf.c5 (by omega) h0 hp H.st H.mq (by omega) (by omega) (by omega) (by omega) (by omega) (by decide)
  have fc : FCells (updV F 8 (.pointer (some ⟨rb, 0, none⟩))) bo (bd + 1) (bt + 1) bx cx (M + 2) rb := { x := nf.x, p := nf.p, run := rfl, xn := nf.xn, pn := nf.pn, tmp := nf.tmp }
  have lt : ∀ {k t' n f}, w.rowIs k t' n f → k < w.heap.size := fun h => h.lt
  have nb : ∀ {k t' n f}, w.rowIs k t' n f → t' ≠ 26 → t' ≠ 58 → k ≠ g → k ∉ [mb, g, N + 15, N + 17, N + 19] := fun h1 h2 h3 h4 => by
    simp only [List.mem_cons, List.not_mem_nil, or_false, not_or]
    exact ⟨row_ne h1 H.mo h3, h4, row_ne h1 H.mf.data h2, row_ne h1 H.mw.data h2, row_ne h1 H.mq.data h2⟩
  have nc : ∀ k, M ≤ k → k ∉ [mb, g, N + 15, N + 17, N + 19] := fun k h1 => by
    simp only [List.mem_cons, List.not_mem_nil, or_false, not_or]
    omega
  have hstep : Calls Ybaf.prog 19 #[.pointer (some ⟨fb, 0, none⟩), .float .f64 dt] w fun e w' => e = .returned (.tuple #[.pointer (some ⟨N + 16, 0, none⟩), .pointer none, .pointer (some ⟨N + 20, 0, none⟩)]) ∧ Fr [mb, g, N + 15, N + 17, N + 19] w w' ∧ w'.rowIs fb 47 25 (updV F 8 (.pointer (some ⟨rb, 0, none⟩))) ∧ FCells (updV F 8 (.pointer (some ⟨rb, 0, none⟩))) bo (bd + 1) (bt + 1) bx cx (M + 2) rb ∧
      (∃ fa' fq', Pre w' bo (bd + 1) bd (bt + 1) bt (N + 16) (N + 15) (M + 2) (M + 1) (N + 20) (N + 19) bx cx (fun _ => 0) (fun _ => 0) (fun _ => 0) fa' (flat 2 fP) fq' fx (ft za zt) zp (dg2 (w0 * w0) (w1 * w1)) zx (128 * 255) 255 (255 * 255) 128) ∧ w'.rowIs rb 50 6 (rv 2 0 nilS nilS nilS nilS) ∧ (0 = 0 ∨ (0 = 1 ∧ 0 = 0)) ∧ bx ≠ bd ∧ bx ≠ bt ∧
      (∃ v, w'.rowIs mb 58 4 (mv da dwd did v) ∧ w'.ownsRow 0 26 1 v 2 [.float .f64 t, .float .f64 dt] ∧ ∀ g', v.ownBlock = some g' → g' = g ∨ w.heap.size ≤ g') := by
    refine hs.mono ?_
    rintro e w2 ⟨rfl, hfr, hF, ⟨v, hv1, hv2, hv3⟩, ⟨gF', mF, rF⟩, _, gQ', mQ, rQ⟩
    refine ⟨rfl, hfr, hF, fc, ⟨gF', gQ', ?_⟩, hfr.row hrec (nb hrec (by decide) (by decide) (Ne.symm hrb)), .inl rfl, nf.n2, nf.n3, v, hv1, hv2, hv3⟩
    exact { five := { md := nf.md.fr hfr (nc _ (by omega)) (nc _ (by omega)), mt := nf.mt.fr hfr (nc _ (by omega)) (nc _ (by omega)), ma := mF, mp := H.mp.fr hfr (nc _ (by omega)) (nc _ (by omega)), mq := mQ
                      ra := fun i hi => ⟨rF i hi, ft_bd (fun i hi => (ra i hi).2) rt.2 i hi⟩, rp := rp, rq := fun i hi => ⟨rQ i hi, dg_bd (rw' 0 (by omega)).2 (rw' 3 (by omega)).2 i hi⟩, n1 := nf.n6, n2 := by omega, n3 := by omega, n4 := by omega, n5 := by omega, n6 := by omega, n7 := by omega, hM := by decide, hN := by decide }
            out := hfr.row nf.vo (nc _ (by omega)), vec := nf.vx.fr hfr (nc _ (by omega)), rx := rx, m1 := by omega, m2 := Ne.symm nf.n1, m3 := nf.n4, m4 := nf.n5, m5 := by omega, m6 := by omega, hX := by decide }
  have hl1 := lt hrow
  have hl2 := lt hrec
  have hl3 := lt nf.vo
  have hl4 := lt nf.md.data
  have hl5 := lt nf.mt.data
  refine (predict_nil w fb bo (bd + 1) bd (bt + 1) bt (N + 16) (N + 15) (M + 2) (M + 1) (N + 20) (N + 19) bx cx rb 0 0 dt none (updV F 8 (.pointer (some ⟨rb, 0, none⟩))) (fun _ => 0) (fun _ => 0) (fun _ => 0) (flat 2 fP) fx (ft za zt) zp (dg2 (w0 * w0) (w1 * w1)) zx (128 * 255) 255 (255 * 255) 128 [mb, g, N + 15, N + 17, N + 19]
    (fun w' => ∃ v, w'.rowIs mb 58 4 (mv da dwd did v) ∧ w'.ownsRow 0 26 1 v 2 [.float .f64 t, .float .f64 dt] ∧ ∀ g', v.ownBlock = some g' → g' = g ∨ w.heap.size ≤ g') hstep).mono ?_
  rintro e w' ⟨rfl, hfr, ⟨w2, ⟨v, hv1, hv2, hv3⟩, hz⟩, hF, hx, hP, gx, ex, gp, ep, gt, et, v', hr, hv4, hv5, hv6, hu⟩
  have hv' : v' = nilS := by
    rcases hu with ⟨_, h⟩ | ⟨h, _⟩
    · exact h
    · cases h
  subst hv'
  obtain ⟨_, ⟨_, h2⟩ | ⟨gl, cap, cur, hv, _⟩⟩ := id hv2
  · cases h2
  subst hv
  have hgl := hv3 gl rfl
  refine ⟨rfl, hfr, hF, hx, hP, ⟨gx, ex, gp, ep, gt, et, hr, hv4, hv5, hv6⟩, gl, cap, hz.row hv1 ?_, ownsRow_fr hv2 hz ?_⟩
  · simp only [List.mem_cons, List.not_mem_nil, or_false, not_or]
    refine ⟨?_, ?_, ?_, ?_, ?_⟩
    · exact row_ne H.mo hrow (by decide)
    · exact row_ne H.mo hrec (by decide)
    · omega
    · omega
    · omega
  · intro g' hg'
    simp [Value.ownBlock] at hg'
    subst hg'
    simp only [List.mem_cons, List.not_mem_nil, or_false, not_or]
    rcases hgl with h | h
    · refine ⟨?_, ?_, ?_, ?_, ?_⟩ <;> omega
    · refine ⟨?_, ?_, ?_, ?_, ?_⟩ <;> omega
end Go.Proofs.YbulkaotqFmt.Wk
