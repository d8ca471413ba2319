/-
  The law's filter of fixed matrices: 'NewFilter', and 'predict' over the model's own step.
-/
import Derived.Test.YbulkaotqFmtChkN
import Derived.Test.YbulkaotqFmtChkB
import Derived.Test.YbulkaotqFmtMst
import Derived.Test.YbulkaotqFmtPredU
namespace Go.Proofs.YbulkaotqFmt.Wk
open Go.RowKit Fl

/-- What lies behind 'NewFilter'. -/
structure PO (w : World) (N M : Nat) (p1 : Option Addr) (fx : Nat → Nat) (fF fQ fP : Nat → Nat → Nat) (F : Nat → Value) (bx cx bo bd bt : Nat) : Prop where
  nf : NFx w (M + 5) (M + 2) fx (some ⟨N + 4, 0, none⟩) p1 (some ⟨N + 6, 0, none⟩) (some ⟨N + 8, 0, none⟩) (some ⟨N + 12, 0, none⟩) none F bx cx bo bd bt
  mp : Mat w (M + 2) 2 2 (M + 1) (flat 2 fP)
  mf : Mat w (N + 4) 2 2 (N + 3) (flat 2 fF)
  mq : Mat w (N + 8) 2 2 (N + 7) (flat 2 fQ)
  hM : N + 15 ≤ M
/-- The control matrix. -/
structure PB (w : World) (N M : Nat) (fB : Nat → Nat → Nat) : Prop where
  mb : Mat w (N + 16) 2 1 (N + 15) (flat 1 fB)
  hM : N + 17 ≤ M

theorem PO.fr {S : List Nat} {w w' : World} {N M : Nat} {p1 : Option Addr} {fx : Nat → Nat} {fF fQ fP : Nat → Nat → Nat} {F : Nat → Value} {bx cx bo bd bt : Nat} (h : PO w N M p1 fx fF fQ fP F bx cx bo bd bt) (k : Fr S w w') (hS : ∀ x ∈ S, ∃ t n f, w.rowIs x t n f ∧ t ≠ 26 ∧ t ≠ 76) :
    PO w' N M p1 fx fF fQ fP F bx cx bo bd bt := by
  have n26 : ∀ {k' n' f'}, w.rowIs k' 26 n' f' → k' ∉ S := fun h1 h2 => by
    obtain ⟨t, n, f, h3, h4, _⟩ := hS _ h2
    exact row_ne h1 h3 (Ne.symm h4) rfl
  have n76 : ∀ {k' n' f'}, w.rowIs k' 76 n' f' → k' ∉ S := fun h1 h2 => by
    obtain ⟨t, n, f, h3, _, h4⟩ := hS _ h2
    exact row_ne h1 h3 (Ne.symm h4) rfl
  have nx : bx ∉ S := by
    obtain ⟨f0, h0, _⟩ := h.nf.vx
    exact n26 h0
  exact { nf := h.nf.fr k nx (n26 h.nf.vo) (n26 h.nf.md.data) (n76 h.nf.md.head) (n26 h.nf.mt.data) (n76 h.nf.mt.head)
          mp := h.mp.fr k (n76 h.mp.head) (n26 h.mp.data), mf := h.mf.fr k (n76 h.mf.head) (n26 h.mf.data), mq := h.mq.fr k (n76 h.mq.head) (n26 h.mq.data), hM := h.hM }
theorem PB.fr {S : List Nat} {w w' : World} {N M : Nat} {fB : Nat → Nat → Nat} (h : PB w N M fB) (k : Fr S w w') (hS : ∀ x ∈ S, ∃ t n f, w.rowIs x t n f ∧ t ≠ 26 ∧ t ≠ 76) : PB w' N M fB := by
  refine ⟨h.mb.fr k ?_ ?_, h.hM⟩
  · intro h2
    obtain ⟨t, n, f, h3, _, h4⟩ := hS _ h2
    exact row_ne h.mb.head h3 (Ne.symm h4) rfl
  · intro h2
    obtain ⟨t, n, f, h3, h4, _⟩ := hS _ h2
    exact row_ne h.mb.data h3 (Ne.symm h4) rfl

set_option maxHeartbeats 2000000 in
theorem new_n (w : World) (oF oH oQ oR oP xb cxx : Nat) (rF rH rQ rR rP : Nat → Nat) (fF fH fQ fR fP : Nat → Nat → Nat) (fx : Nat → Nat)
    (hin : MIn w oF oH oQ oR rF rH rQ rR fF fH fQ fR) (hP : RowsIn w oP 2 2 rP fP) (hPf : ∀ i, i < 2 → ∀ j, j < 2 → Fin1 (fP i j)) (hPd : Diag 2 (flat 2 fP)) (hx : w.rowIs xb 26 2 (fv fx)) (hxf : ∀ i, i < 2 → Fin1 (fx i)) :
    Calls Ybaf.prog 5 #[.agg (mval oF (.slice none 0 0) oH oQ oR .nilIface (.float .f64 0)), .slice (some ⟨xb, 0, none⟩) 2 cxx, .slice (some ⟨oP, 0, none⟩) 2 2] w fun e w' =>
      ∃ M fb F bx cx bo bd bt, e = .returned (.tuple #[.pointer (some ⟨fb, 0, none⟩), .nilIface]) ∧ Fr [] w w' ∧ w'.rowIs fb 47 25 F ∧ M + 5 ≤ fb ∧ w.heap.size ≤ M ∧ PO w' (w.heap.size + 1) M none fx fF fQ fP F bx cx bo bd bt := by
  refine (newFilter_any w oF (.slice none 0 0) oH oQ oR .nilIface (.float .f64 0) oP xb cxx rP fP fx (some ⟨w.heap.size + 1 + 4, 0, none⟩) none (some ⟨w.heap.size + 1 + 6, 0, none⟩) (some ⟨w.heap.size + 1 + 8, 0, none⟩) (some ⟨w.heap.size + 1 + 12, 0, none⟩) none []
    (fun w' => w.heap.size + 1 + 15 ≤ w'.heap.size ∧ Mat w' (w.heap.size + 1 + 4) 2 2 (w.heap.size + 1 + 3) (flat 2 fF) ∧ Mat w' (w.heap.size + 1 + 8) 2 2 (w.heap.size + 1 + 7) (flat 2 fQ))
    ?_ (by simp) hP hPf hPd hx hxf (by simp) (by simp) (by simp)).mono ?_
  · intro W' f hsz
    have h := chk_n W' oF oH oQ oR rF rH rQ rR fF fH fQ fR (hin.mv f)
    rw [hsz] at h
    exact h
  · rintro e w' ⟨v1, F, fb, bx, cx, bo, bd, bt, rfl, fS, ⟨r1, r2, r3⟩, f1, hrow, hge, hN, mP⟩
    exact ⟨v1.heap.size, fb, F, bx, cx, bo, bd, bt, rfl, fS.trans f1, hrow, hge, fS.size, { nf := hN, mp := mP, mf := r2.fr f1 (by simp) (by simp), mq := r3.fr f1 (by simp) (by simp), hM := r1 }⟩

set_option maxHeartbeats 2000000 in
theorem new_b (w : World) (oF oH oQ oR oB oP xb cxx : Nat) (rF rH rQ rR rB rP : Nat → Nat) (fF fH fQ fR fB fP : Nat → Nat → Nat) (fx : Nat → Nat)
    (hin : MIn w oF oH oQ oR rF rH rQ rR fF fH fQ fR) (hB : RowsIn w oB 2 1 rB fB) (hBf : ∀ i, i < 2 → ∀ j, j < 1 → Fin1 (fB i j)) (hP : RowsIn w oP 2 2 rP fP) (hPf : ∀ i, i < 2 → ∀ j, j < 2 → Fin1 (fP i j)) (hPd : Diag 2 (flat 2 fP)) (hx : w.rowIs xb 26 2 (fv fx)) (hxf : ∀ i, i < 2 → Fin1 (fx i)) :
    Calls Ybaf.prog 5 #[.agg (mval oF (.slice (some ⟨oB, 0, none⟩) 2 2) oH oQ oR .nilIface (.float .f64 0)), .slice (some ⟨xb, 0, none⟩) 2 cxx, .slice (some ⟨oP, 0, none⟩) 2 2] w fun e w' =>
      ∃ M fb F bx cx bo bd bt, e = .returned (.tuple #[.pointer (some ⟨fb, 0, none⟩), .nilIface]) ∧ Fr [] w w' ∧ w'.rowIs fb 47 25 F ∧ M + 5 ≤ fb ∧ w.heap.size ≤ M ∧ PO w' (w.heap.size + 1) M (some ⟨w.heap.size + 1 + 16, 0, none⟩) fx fF fQ fP F bx cx bo bd bt ∧ PB w' (w.heap.size + 1) M fB := by
  refine (newFilter_any w oF (.slice (some ⟨oB, 0, none⟩) 2 2) oH oQ oR .nilIface (.float .f64 0) oP xb cxx rP fP fx (some ⟨w.heap.size + 1 + 4, 0, none⟩) (some ⟨w.heap.size + 1 + 16, 0, none⟩) (some ⟨w.heap.size + 1 + 6, 0, none⟩) (some ⟨w.heap.size + 1 + 8, 0, none⟩) (some ⟨w.heap.size + 1 + 12, 0, none⟩) none []
    (fun w' => w.heap.size + 1 + 17 ≤ w'.heap.size ∧ Mat w' (w.heap.size + 1 + 4) 2 2 (w.heap.size + 1 + 3) (flat 2 fF) ∧ Mat w' (w.heap.size + 1 + 8) 2 2 (w.heap.size + 1 + 7) (flat 2 fQ) ∧ Mat w' (w.heap.size + 1 + 16) 2 1 (w.heap.size + 1 + 15) (flat 1 fB))
    ?_ (by simp) hP hPf hPd hx hxf (by simp) (by simp) (by simp)).mono ?_
  · intro W' f hsz
    have h := chk_b W' oF oH oQ oR rF rH rQ rR fF fH fQ fR oB rB fB (hin.mv f) (hB.fr f (by simp) (by simp)) hBf
    rw [hsz] at h
    exact h
  · rintro e w' ⟨v1, F, fb, bx, cx, bo, bd, bt, rfl, fS, ⟨r1, r2, r3, r4⟩, f1, hrow, hge, hN, mP⟩
    exact ⟨v1.heap.size, fb, F, bx, cx, bo, bd, bt, rfl, fS.trans f1, hrow, hge, fS.size, { nf := hN, mp := mP, mf := r2.fr f1 (by simp) (by simp), mq := r3.fr f1 (by simp) (by simp), hM := by omega }, ⟨r4.fr f1 (by simp) (by simp), r1⟩⟩

/-- The step of fixed matrices, as 'predict' asks for it. -/
theorem own_pre (w : World) (N M rb q : Nat) (p1 : Option Addr) (fx : Nat → Nat) (fF fQ fP : Nat → Nat → Nat) (F : Nat → Value) (bx cx bo bd bt : Nat) (za zp zq zx : Nat → Int)
    (H : PO w N M p1 fx fF fQ fP F bx cx bo bd bt) (rf : ∀ i, i < 4 → Rep (flat 2 fF i) (za i) ∧ Bd (za i) 128) (rq : ∀ i, i < 4 → Rep (flat 2 fQ i) (zq i) ∧ Bd (zq i) 255) (rp : ∀ i, i < 4 → Rep (flat 2 fP i) (zp i) ∧ Bd (zp i) 255) (rx : ∀ i, i < 2 → Rep (fx i) (zx i) ∧ Bd (zx i) 128) :
    FCells (updV F 8 (.pointer (some ⟨rb, 0, none⟩))) bo (bd + 1) (bt + 1) bx cx (M + 2) rb ∧ Pre (w.drewN q) bo (bd + 1) bd (bt + 1) bt (N + 4) (N + 3) (M + 2) (M + 1) (N + 8) (N + 7) bx cx (fun _ => 0) (fun _ => 0) (fun _ => 0) (flat 2 fF) (flat 2 fP) (flat 2 fQ) fx za zp zq zx 128 255 255 128 := by
  have nf := H.nf
  have g0 := H.hM
  have g1 := nf.g1
  have g2 := nf.g2
  have g3 := nf.g3
  have g4 := nf.g4
  refine ⟨{ x := nf.x, p := nf.p, run := rfl, xn := nf.xn, pn := nf.pn, tmp := nf.tmp }, Pre.drewN ?_ q⟩
  exact { five := { md := nf.md, mt := nf.mt, ma := H.mf, mp := H.mp, mq := H.mq, ra := rf, rp := rp, rq := rq, n1 := nf.n6, n2 := by omega, n3 := by omega, n4 := by omega, n5 := by omega, n6 := by omega, n7 := by omega, hM := by decide, hN := by decide }
          out := nf.vo, vec := nf.vx, rx := rx, m1 := by omega, m2 := Ne.symm nf.n1, m3 := nf.n4, m4 := nf.n5, m5 := by omega, m6 := by omega, hX := by decide }

/-- What lies behind 'predict'. -/
structure Done (w : World) (fb rb k xu : Nat) (F : Nat → Value) (bo bd bx cx M : Nat) (fx : Nat → Nat) (fP : Nat → Nat → Nat) (za zp zq zx c : Nat → Int) (B0 : Nat) : Prop where
  row : w.rowIs fb 47 25 (stepped (updV F 8 (.pointer (some ⟨rb, 0, none⟩))) bo (bd + 1) bx cx (M + 2))
  x : ∃ g, w.rowIs bo 26 2 (fv g) ∧ ∀ i, i < 2 → Rep (g i) (za (i * 2) * zx 0 + za (i * 2 + 1) * zx 1 + c i)
  p : ∃ g, Mat w (bd + 1) 2 2 bd g ∧ PNew g za zp zq
  run : ∃ gx ex gp ep gt et v, w.rowIs rb 50 6 (rv 2 k (.slice (some ⟨gx, 0, none⟩) 2 ex) (.slice (some ⟨gp, 0, none⟩) 4 ep) (.slice (some ⟨gt, 0, none⟩) 1 et) v) ∧ Vec w gx 2 ex fx ∧ Vec w gp 4 ep (flat 2 fP) ∧ Vec w gt 1 et (fun _ => own1) ∧ UOut w B0 k v xu

set_option maxHeartbeats 1000000 in
theorem own_nil (w : World) (N M rb fb k : Nat) (p1 : Option Addr) (fx : Nat → Nat) (fF fQ fP : Nat → Nat → Nat) (F : Nat → Value) (bx cx bo bd bt : Nat) (za zp zq zx : Nat → Int)
    (H : PO w N M p1 fx fF fQ fP F bx cx bo bd bt) (rf : ∀ i, i < 4 → Rep (flat 2 fF i) (za i) ∧ Bd (za i) 128) (rq : ∀ i, i < 4 → Rep (flat 2 fQ i) (zq i) ∧ Bd (zq i) 255) (rp : ∀ i, i < 4 → Rep (flat 2 fP i) (zp i) ∧ Bd (zp i) 255) (rx : ∀ i, i < 2 → Rep (fx i) (zx i) ∧ Bd (zx i) 128)
    (hrow : w.rowIs fb 47 25 (updV F 8 (.pointer (some ⟨rb, 0, none⟩)))) (hrec : w.rowIs rb 50 6 (rv 2 k nilS nilS nilS nilS)) (hk : k = 0 ∨ k = 1) :
    Calls Ybaf.prog 7 #[.pointer (some ⟨fb, 0, none⟩), .float .f64 own1, .slice none 0 0] w fun e w' => e = .returned .nilIface ∧ Fr [fb, rb, bo, bd, bt] w w' ∧ Done w' fb rb k 0 F bo bd bx cx M fx fP za zp zq zx (fun _ => 0) w.heap.size := by
  refine (predict_nil w fb bo (bd + 1) bd (bt + 1) bt (N + 4) (N + 3) (M + 2) (M + 1) (N + 8) (N + 7) bx cx rb k 0 own1 p1 (updV F 8 (.pointer (some ⟨rb, 0, none⟩))) (fun _ => 0) (fun _ => 0) (fun _ => 0) (flat 2 fP) fx za zp zq zx 128 255 255 128 [] (fun _ => True) ?_).mono ?_
  · refine (stepMat_own w fb (updV F 8 (.pointer (some ⟨rb, 0, none⟩))) _ _ _ hrow H.nf.c0 H.nf.c1 H.nf.c3).mono ?_
    rintro e w2 ⟨rfl, q, rfl⟩
    obtain ⟨h1, h2⟩ := own_pre w N M rb q p1 fx fF fQ fP F bx cx bo bd bt za zp zq zx H rf rq rp rx
    exact ⟨rfl, (Fr.refl [] w).drewN q, hrow, h1, ⟨_, _, h2⟩, hrec, by rcases hk with h | h; exact .inl h; exact .inr ⟨h, rfl⟩, H.nf.n2, H.nf.n3, trivial⟩
  · rintro e w' ⟨rfl, hfr, _, hF, hx, hP, hr⟩
    exact ⟨rfl, hfr, ⟨hF, hx, hP, hr⟩⟩

set_option maxHeartbeats 1000000 in
theorem own_u (w : World) (N M rb fb ub cu : Nat) (fx fu : Nat → Nat) (fF fQ fP fB : Nat → Nat → Nat) (F : Nat → Value) (bx cx bo bd bt : Nat) (za zp zq zx zb : Nat → Int) (zu : Int)
    (H : PO w N M (some ⟨N + 16, 0, none⟩) fx fF fQ fP F bx cx bo bd bt) (HB : PB w N M fB) (rf : ∀ i, i < 4 → Rep (flat 2 fF i) (za i) ∧ Bd (za i) 128) (rq : ∀ i, i < 4 → Rep (flat 2 fQ i) (zq i) ∧ Bd (zq i) 255) (rp : ∀ i, i < 4 → Rep (flat 2 fP i) (zp i) ∧ Bd (zp i) 255) (rx : ∀ i, i < 2 → Rep (fx i) (zx i) ∧ Bd (zx i) 128)
    (rb' : ∀ i, i < 2 → Rep (flat 1 fB i) (zb i) ∧ Bd (zb i) 128) (ru : Rep (fu 0) zu ∧ Bd zu 128) (hu : Vec w ub 1 cu fu) (u1 : bo ≠ ub) (u2 : ub ≠ bd) (u3 : ub ≠ bt)
    (hrow : w.rowIs fb 47 25 (updV F 8 (.pointer (some ⟨rb, 0, none⟩)))) (hrec : w.rowIs rb 50 6 (rv 2 1 nilS nilS nilS nilS)) :
    Calls Ybaf.prog 7 #[.pointer (some ⟨fb, 0, none⟩), .float .f64 own1, .slice (some ⟨ub, 0, none⟩) 1 cu] w fun e w' => e = .returned .nilIface ∧ Fr [fb, rb, bo, bd, bt] w w' ∧ Done w' fb rb 1 (fu 0) F bo bd bx cx M fx fP za zp zq zx (fun i => zb i * zu) w.heap.size := by
  have g1 := H.nf.g2
  have g2 := HB.hM
  refine (predict_u w fb bo (bd + 1) bd (bt + 1) bt (N + 4) (N + 3) (M + 2) (M + 1) (N + 8) (N + 7) bx cx rb own1 (N + 16) (N + 15) ub cu (flat 1 fB) fu zb zu 128 128 (updV F 8 (.pointer (some ⟨rb, 0, none⟩))) (fun _ => 0) (fun _ => 0) (fun _ => 0) (flat 2 fP) fx za zp zq zx 128 255 255 128 [] (fun _ => True) ?_).mono ?_
  · refine (stepMat_own w fb (updV F 8 (.pointer (some ⟨rb, 0, none⟩))) _ _ _ hrow H.nf.c0 H.nf.c1 H.nf.c3).mono ?_
    rintro e w2 ⟨rfl, q, rfl⟩
    obtain ⟨h1, h2⟩ := own_pre w N M rb q _ fx fF fQ fP F bx cx bo bd bt za zp zq zx H rf rq rp rx
    exact ⟨rfl, (Fr.refl [] w).drewN q, hrow, h1, ⟨_, _, h2⟩, hrec, ⟨⟨HB.mb.head, HB.mb.data⟩, hu, by omega, u1, u2, u3, rb', ru, by decide⟩, H.nf.n2, H.nf.n3, trivial⟩
  · rintro e w' ⟨rfl, hfr, _, hF, hx, hP, hr⟩
    exact ⟨rfl, hfr, ⟨hF, hx, hP, hr⟩⟩
end Go.Proofs.YbulkaotqFmt.Wk
