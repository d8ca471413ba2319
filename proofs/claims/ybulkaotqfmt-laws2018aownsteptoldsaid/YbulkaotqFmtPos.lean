/-
  'PositiveSemidefinite' (41) at a diagonal matrix of one or two rows.
-/
import Derived.Test.YbulkaotqFmtChol
namespace Go.Proofs.YbulkaotqFmt.Wk
open Go.RowKit
attribute [local go_sem] store_fl0

theorem Mat.other {w : World} {d r c b : Nat} {f : Nat → Nat} (m : Mat w d r c b f) {g : Nat} (h1 : d ≠ g) (h2 : b ≠ g) (k : Nat) (v : Value) : Mat (w.setCell ⟨g, k, none⟩ v) d r c b f :=
  ⟨m.head.setOther (a := ⟨g, k, none⟩) h1 _, m.data.setOther (a := ⟨g, k, none⟩) h2 _⟩
/-- 'scaleOf' at a variance. -/
theorem scale_any {d s t sc u x y z : Nat} (G : Dg d s t sc u x y z) (w : World) : Calls Ybaf.prog 49 #[.float .f64 d] w fun e w' => e = .returned (.float .f64 sc) ∧ w = w' := by
  rcases G.scale with ⟨h, rfl⟩ | ⟨h, rfl⟩
  · exact scale_zero d h w
  · exact scale_pos d sc h G.sqrt w

theorem quiet_in {P : Program} {fn : FuncId} {args : Array Value} {w : World} {N a : Nat} {v : Value} (h : Calls P fn args (w.drewN (N + a)) fun e w' => e = .returned v ∧ ∃ q, w' = (w.drewN (N + a)).drewN q) :
    Calls P fn args (w.drewN (N + a)) fun e w'' => e = .returned v ∧ ∃ n, w'' = w.drewN (N + n) :=
  h.mono fun _ _ ⟨he, q, hq⟩ => ⟨he, a + q, by rw [hq, World.drewN_drewN, Nat.add_assoc]⟩
theorem quiet_same {P : Program} {fn : FuncId} {args : Array Value} {w : World} {N a : Nat} {v : Value} (h : Calls P fn args (w.drewN (N + a)) fun e w' => e = .returned v ∧ w.drewN (N + a) = w') :
    Calls P fn args (w.drewN (N + a)) fun e w'' => e = .returned v ∧ ∃ n, w'' = w.drewN (N + n) :=
  h.mono fun _ _ ⟨he, hq⟩ => ⟨he, a, hq.symm⟩

set_option maxRecDepth 100000 in
set_option maxHeartbeats 4000000 in
theorem psd1 (w : World) (d b dw bw : Nat) (f g : Nat → Nat) (m : Mat w d 1 1 b f) (mw : Mat w dw 1 1 bw g) (hbb : b ≠ bw) (g0 : Good (f 0)) :
    Calls Ybaf.prog 41 #[.pointer (some ⟨d, 0, none⟩), .pointer (some ⟨dw, 0, none⟩), .float .f64 tol] w fun e w' => e = .returned (.bool true) ∧ Fr [bw] w w' ∧ w'.heap.size = w.heap.size := by
  obtain ⟨s0, t0, sc0, u0, x0, y0, z0, G0⟩ := g0
  have c0 := m.c0
  have c1 := m.c1
  have c2 := m.c2
  have k0 := mw.c0
  have k1 := mw.c1
  have e0 := m.data.cell (i := 0) (by omega)
  have a0 := mw.data.cell (i := 0) (by omega)
  have a0f := mw.data.frozen 0
  unfold fv at e0 a0
  simp only [Nat.reduceMul] at c2
  have n1 : d ≠ bw := row_ne m.head mw.data (by decide)
  have n1' : bw ≠ d := Ne.symm n1
  have n2 : bw ≠ b := Ne.symm hbb
  have hneg : (FloatKind.f64.format.order (f 0) 0 == some .lt) = false := G0.neg
  have q1 := div_run G0.q1
  have q2 := div_run G0.q2
  have ad := add_run G0.sum
  have HG := hide G0
  have Hm := hide m
  have Hmw := hide mw
  have HM2 := hide ((mw.set 0 x0).set 0 y0)
  generalize hd0 : f 0 = d0 at *
  generalize htl : tol = tl at *
  have Htl := hide htl
  have Hd0 := hide hd0
  clear m mw G0 htl hd0
  have s0 := sub_run sub00
  have hw0 : IntKind.i64.wrap 0 = 0 := by decide
  go_enter Ybaf.func41, Ybaf.ntmps41
  go_wp2
  go_loopw [47] (fun i wr => ∃ k : Nat, k ≤ 1 ∧ i = .int .i64 k ∧ ∃ q, wr = w.drewN q) (fun i _ => 1 - (intOf i).toNat)
  case atStart => exact ⟨0, by omega, rfl, 0, rfl⟩
  case round =>
    obtain ⟨k, hk, rfl, q, rfl⟩ := hrel
    have hk2 : k = 0 ∨ k = 1 := by omega
    rcases hk2 with rfl | rfl
    · by_cases hz : Ieee.double.order d0 0 = some .eq
      · have hz' : FloatKind.f64.format.order d0 0 = some .eq := hz
        have Hz := hide hz
        clear hz
        go_wp2_with fail
        refine (row11 _ d b f (by exact ⟨(unhide Hm).head, (unhide Hm).data⟩)).mono ?_
        rintro e w2 ⟨rfl, q2, rfl⟩
        go_wp2_with fail
        refine (contains_false _ b 0 1 1 f (by omega) (by exact fun i hi => by rw [Nat.zero_add]; exact (unhide Hm).data.cell (by omega)) (fun i hi => by rw [show i = 0 from by omega, unhide Hd0]; exact unhide Hz)).mono ?_
        rintro e w3 ⟨rfl, rfl⟩
        go_wp2
        go_roundw
        case rel => exact ⟨1, by omega, by go_num, _, rfl⟩
        case measure => simp [intOf]
      · have hz' : (FloatKind.f64.format.order d0 0 == some .eq) = false := by show (Ieee.double.order d0 0 == some .eq) = false; simpa using hz
        clear hz
        go_wp2
        go_roundw
        case rel => exact ⟨1, by omega, by go_num, _, rfl⟩
        case measure => simp [intOf]
    · go_wp2
      refine wp_loop_rounds 2 ?_
      rw [rounds_succ]
      go_wp2
      go_quiet ((first | (go_at_call 26; exact quiet_in (row11 _ dw bw g (by exact ⟨(unhide Hmw).head, (unhide Hmw).data⟩))) | (go_at_call 49; exact quiet_same (scale_any (unhide HG) _))))
      go_wp2_with fail
      refine (row11 _ d b f (by exact ⟨(unhide Hm).head, (unhide Hm).data⟩)).mono ?_
      rintro e w2 ⟨rfl, q2, rfl⟩
      go_wp2
      refine wp_loop_rounds 2 ?_
      rw [rounds_succ]
      go_wp2_with (go_at_call 49; refine (scale_any (unhide HG) _).mono ?_; rintro e w' ⟨rfl, rfl⟩)
      rw [rounds_succ]
      go_wp2
      rw [rounds_succ]
      go_wp2_with fail
      refine (cholesky1 _ dw bw _ (by exact ⟨(unhide HM2).head, (unhide HM2).data⟩) y0 z0 (upd_same _ _ _) (unhide HG).less (unhide HG).pos (unhide HG).fin (unhide HG).root).mono ?_
      rintro e w5 ⟨rfl, hfr, hsz⟩
      have Hfr := hide hfr
      have Hsz := hide hsz
      clear hfr hsz
      go_wp2
      go_ret
      exact ⟨rfl, ((((Fr.refl [bw] w).drewN _).setCell (.inl (by simp)) _).setCell (.inl (by simp)) _).trans (unhide Hfr), by rw [unhide Hsz]; simp⟩

set_option maxRecDepth 100000 in
set_option maxHeartbeats 8000000 in
theorem psd2 (w : World) (d b dw bw : Nat) (f g : Nat → Nat) (m : Mat w d 2 2 b f) (mw : Mat w dw 2 2 bw g) (hbb : b ≠ bw) (h1 : f 1 = 0) (h2 : f 2 = 0) (g0 : Good (f 0)) (g3 : Good (f 3)) :
    Calls Ybaf.prog 41 #[.pointer (some ⟨d, 0, none⟩), .pointer (some ⟨dw, 0, none⟩), .float .f64 tol] w fun e w' => e = .returned (.bool true) ∧ Fr [bw] w w' ∧ w'.heap.size = w.heap.size := by
  obtain ⟨s0, t0, sc0, u0, x0, y0, z0, G0⟩ := g0
  obtain ⟨s3, t3, sc3, u3, x3, y3, z3, G3⟩ := g3
  have c0 := m.c0
  have c1 := m.c1
  have c2 := m.c2
  have k0 := mw.c0
  have k1 := mw.c1
  have e0 := m.data.cell (i := 0) (by omega)
  have e1 := m.data.cell (i := 1) (by omega)
  have e2 := m.data.cell (i := 2) (by omega)
  have e3 := m.data.cell (i := 3) (by omega)
  have a0 := mw.data.cell (i := 0) (by omega)
  have a1 := mw.data.cell (i := 1) (by omega)
  have a2 := mw.data.cell (i := 2) (by omega)
  have a3 := mw.data.cell (i := 3) (by omega)
  have a0f := mw.data.frozen 0
  have a1f := mw.data.frozen 1
  have a2f := mw.data.frozen 2
  have a3f := mw.data.frozen 3
  unfold fv at e0 e1 e2 e3 a0 a1 a2 a3
  rw [h1] at e1
  rw [h2] at e2
  simp only [Nat.reduceMul] at c2
  have n1 : d ≠ bw := row_ne m.head mw.data (by decide)
  have n1' : bw ≠ d := Ne.symm n1
  have n2 : bw ≠ b := Ne.symm hbb
  have hneg : (FloatKind.f64.format.order (f 0) 0 == some .lt) = false := G0.neg
  have hneg3 : (FloatKind.f64.format.order (f 3) 0 == some .lt) = false := G3.neg
  have q1 := div_run G0.q1
  have q2 := div_run G0.q2
  have q0 := div_run G0.q0
  have ad := add_run G0.sum
  have q13 := div_run G3.q1
  have q23 := div_run G3.q2
  have q03 := div_run G3.q0
  have ad3 := add_run G3.sum
  have HG := hide G0
  have HG3 := hide G3
  have Hm := hide m
  have Hmw := hide mw
  have HM1 := hide (((mw.set 0 x0).set 1 0).set 0 y0)
  have HMa := hide (((m.other n1 hbb 0 (.float .f64 x0)).other n1 hbb 1 (.float .f64 0)).other n1 hbb 0 (.float .f64 y0))
  have HM2 := hide ((((((mw.set 0 x0).set 1 0).set 0 y0).set 2 0).set 3 x3).set 3 y3)
  have Hh1 := hide h1
  have Hh2 := hide h2
  generalize hd0 : f 0 = d0 at *
  generalize hd3 : f 3 = d3 at *
  generalize htl : tol = tl at *
  have Htl := hide htl
  have Hd0 := hide hd0
  have Hd3 := hide hd3
  clear m mw G0 G3 htl hd0 hd3 h1 h2
  have hw0 : IntKind.i64.wrap 0 = 0 := by decide
  have hw1 : IntKind.i64.wrap 1 = 1 := by decide
  have hw2 : IntKind.i64.wrap 2 = 2 := by decide
  have hw3 : IntKind.i64.wrap 3 = 3 := by decide
  go_enter Ybaf.func41, Ybaf.ntmps41
  go_wp2
  go_loopw [47] (fun i wr => ∃ k : Nat, k ≤ 2 ∧ i = .int .i64 k ∧ ∃ q, wr = w.drewN q) (fun i _ => 2 - (intOf i).toNat)
  case atStart => exact ⟨0, by omega, rfl, 0, rfl⟩
  case round =>
    obtain ⟨k, hk, rfl, q, rfl⟩ := hrel
    have hk2 : k = 0 ∨ k = 1 ∨ k = 2 := by omega
    rcases hk2 with rfl | rfl | rfl
    · by_cases hz : Ieee.double.order d0 0 = some .eq
      · have hz' : FloatKind.f64.format.order d0 0 = some .eq := hz
        have Hz := hide hz
        clear hz
        go_wp2_with fail
        refine (row22a _ d b f (by exact ⟨(unhide Hm).head, (unhide Hm).data⟩)).mono ?_
        rintro e w2 ⟨rfl, q2, rfl⟩
        go_wp2_with fail
        refine (contains_false _ b 0 2 4 f (by omega) (by exact fun i hi => by rw [Nat.zero_add]; exact (unhide Hm).data.cell (by omega)) (fun i hi => by
          have : i = 0 ∨ i = 1 := by omega
          rcases this with rfl | rfl
          · rw [unhide Hd0]; exact unhide Hz
          · rw [unhide Hh1]; exact eq00)).mono ?_
        rintro e w3 ⟨rfl, rfl⟩
        go_wp2
        go_roundw
        case rel => exact ⟨1, by omega, by go_num, _, rfl⟩
        case measure => simp [intOf]
      · have hz' : (FloatKind.f64.format.order d0 0 == some .eq) = false := by show (Ieee.double.order d0 0 == some .eq) = false; simpa using hz
        clear hz
        go_wp2
        go_roundw
        case rel => exact ⟨1, by omega, by go_num, _, rfl⟩
        case measure => simp [intOf]
    · by_cases hz : Ieee.double.order d3 0 = some .eq
      · have hz' : FloatKind.f64.format.order d3 0 = some .eq := hz
        have Hz := hide hz
        clear hz
        go_wp2_with fail
        refine (row22b _ d b f (by exact ⟨(unhide Hm).head, (unhide Hm).data⟩)).mono ?_
        rintro e w2 ⟨rfl, q2, rfl⟩
        go_wp2_with fail
        refine (contains_false _ b 2 2 2 (fun i => f (2 + i)) (by omega) (by exact fun i hi => (unhide Hm).data.cell (by omega)) (fun i hi => by
          have : i = 0 ∨ i = 1 := by omega
          rcases this with rfl | rfl
          · show Ieee.double.order (f 2) 0 = some .eq
            rw [unhide Hh2]; exact eq00
          · show Ieee.double.order (f 3) 0 = some .eq
            rw [unhide Hd3]; exact unhide Hz)).mono ?_
        rintro e w3 ⟨rfl, rfl⟩
        go_wp2
        go_roundw
        case rel => exact ⟨2, by omega, by go_num, _, rfl⟩
        case measure => simp [intOf]
      · have hz' : (FloatKind.f64.format.order d3 0 == some .eq) = false := by show (Ieee.double.order d3 0 == some .eq) = false; simpa using hz
        clear hz
        go_wp2
        go_roundw
        case rel => exact ⟨2, by omega, by go_num, _, rfl⟩
        case measure => simp [intOf]
    · go_wp2
      refine wp_loop_rounds 3 ?_
      rw [rounds_succ]
      go_wp2
      go_quiet ((first | (go_at_call 26; exact quiet_in (row22a _ dw bw g (by exact ⟨(unhide Hmw).head, (unhide Hmw).data⟩))) | (go_at_call 49; exact quiet_same (scale_any (unhide HG) _))))
      go_wp2_with fail
      refine (row22a _ d b f (by exact ⟨(unhide Hm).head, (unhide Hm).data⟩)).mono ?_
      rintro e w2 ⟨rfl, q2, rfl⟩
      go_wp2
      refine wp_loop_rounds 3 ?_
      rw [rounds_succ]
      go_wp2_with (go_at_call 49; refine (scale_any (unhide HG) _).mono ?_; rintro e w' ⟨rfl, rfl⟩)
      rw [rounds_succ]
      go_wp2_with (go_at_call 49; refine (scale_any (unhide HG3) _).mono ?_; rintro e w' ⟨rfl, rfl⟩)
      rw [rounds_succ]
      go_wp2
      rw [rounds_succ]
      go_wp2
      go_quiet ((first | (go_at_call 26; exact (row22b _ dw bw _ (by exact ⟨(unhide HM1).head, (unhide HM1).data⟩)).mono fun e w' h => ⟨h.1, by obtain ⟨q, hq⟩ := h.2; rw [World.drewN_drewN] at hq; exact ⟨_, hq⟩⟩) | (go_at_call 49; exact (scale_any (unhide HG3) _).mono fun e w' h => ⟨h.1, _, h.2.symm⟩)))
      go_wp2_with fail
      refine (row22b _ d b f (by exact ⟨(unhide HMa).head, (unhide HMa).data⟩)).mono ?_
      rintro e w2 ⟨rfl, q3, rfl⟩
      go_wp2
      refine wp_loop_rounds 3 ?_
      rw [rounds_succ]
      go_wp2_with (go_at_call 49; refine (scale_any (unhide HG) _).mono ?_; rintro e w' ⟨rfl, rfl⟩)
      rw [rounds_succ]
      go_wp2_with (go_at_call 49; refine (scale_any (unhide HG3) _).mono ?_; rintro e w' ⟨rfl, rfl⟩)
      rw [rounds_succ]
      go_wp2
      rw [rounds_succ]
      go_wp2_with fail
      refine (cholesky2 _ dw bw _ (by exact ⟨(unhide HM2).head, (unhide HM2).data⟩) y0 z0 y3 z3 rfl rfl (upd_same _ _ _) (unhide HG).less (unhide HG).pos (unhide HG).fin (unhide HG).root (unhide HG).z0 (unhide HG3).less (unhide HG3).pos (unhide HG3).fin (unhide HG3).root).mono ?_
      rintro e w5 ⟨rfl, hfr, hsz⟩
      have Hfr := hide hfr
      have Hsz := hide hsz
      clear hfr hsz
      go_wp2
      go_ret
      exact ⟨rfl, ((((((((Fr.refl [bw] w).drewN _).setCell (.inl (by simp)) _).setCell (.inl (by simp)) _).setCell (.inl (by simp)) _).drewN _).setCell (.inl (by simp)) _).setCell (.inl (by simp)) _ |>.setCell (.inl (by simp)) _).trans (unhide Hfr), by rw [unhide Hsz]; simp⟩
end Go.Proofs.YbulkaotqFmt.Wk
