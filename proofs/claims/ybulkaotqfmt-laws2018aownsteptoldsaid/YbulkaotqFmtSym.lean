/-
  'MulTSym' (37), 'Equal' (30), 'Finite' (36).
-/
import Derived.Test.YbulkaotqFmtPos
namespace Go.Proofs.YbulkaotqFmt.Wk
open Go.RowKit Fl
theorem store_fl2 (P : Program) (w : World) (a : Addr) (m : Mode) (k : FloatKind) (v : Nat) : (store a (.float k v) m).run P w = stored P w a (.float k v) m := run_store P w a _ m rfl
attribute [local go_sem] store_fl2

set_option maxRecDepth 100000 in
set_option maxHeartbeats 4000000 in
/-- 'MulTSym' of matrices of two rows and columns. -/
theorem multsym_any (w : World) (dd bd da ba db bb : Nat) (g0 fa fb : Nat → Nat) (za zb : Nat → Int) (A B : Nat) (md : Mat w dd 2 2 bd g0) (ma : Mat w da 2 2 ba fa) (mb : Mat w db 2 2 bb fb) (n1 : bd ≠ ba) (n2 : bd ≠ bb)
    (ra : ∀ i, i < 4 → Rep (fa i) (za i) ∧ Bd (za i) A) (rb : ∀ i, i < 4 → Rep (fb i) (zb i) ∧ Bd (zb i) B) (hM : 2 * (A * B) < 9007199254740992) :
    Calls Ybaf.prog 37 #[.pointer (some ⟨dd, 0, none⟩), .pointer (some ⟨da, 0, none⟩), .pointer (some ⟨db, 0, none⟩)] w fun e w' => e = .returned (.tuple #[]) ∧ Fr [bd] w w' ∧ w'.heap.size = w.heap.size ∧
      ∃ g, Mat w' dd 2 2 bd g ∧ Rep (g 0) (za 0 * zb 0 + za 1 * zb 1) ∧ Rep (g 1) (za 0 * zb 2 + za 1 * zb 3) ∧ Rep (g 2) (za 0 * zb 2 + za 1 * zb 3) ∧ Rep (g 3) (za 2 * zb 2 + za 3 * zb 3) := by
  have a0 := ma.c0
  have a1 := ma.c1
  have a2 := ma.c2
  have b0 := mb.c0
  have b1 := mb.c1
  have b2 := mb.c2
  have d0 := md.c0
  have d1 := md.c1
  have d2 := md.c2
  simp only [Nat.reduceMul] at a2 b2 d2
  have k1 : bd ≠ dd := Ne.symm md.ne
  have k2 : bd ≠ da := Ne.symm (row_ne ma.head md.data (by decide))
  have k3 : bd ≠ db := Ne.symm (row_ne mb.head md.data (by decide))
  have k1' := Ne.symm k1
  have k2' := Ne.symm k2
  have k3' := Ne.symm k3
  have e0 := md.data.cell (i := 0) (by omega)
  have e1 := md.data.cell (i := 1) (by omega)
  have e2 := md.data.cell (i := 2) (by omega)
  have e3 := md.data.cell (i := 3) (by omega)
  unfold fv at e0 e1 e2 e3
  have f0 := md.data.frozen 0
  have f1 := md.data.frozen 1
  have f2 := md.data.frozen 2
  have f3 := md.data.frozen 3
  have Hd := hide md
  have Ha := hide ma
  have Hb := hide mb
  have Hra := hide ra
  have Hrb := hide rb
  clear md ma mb ra rb
  go_enter Ybaf.func37, Ybaf.ntmps37
  go_wp2
  go_quiet (fail)
  go_wp2
  go_quiet (fail)
  go_wp2
  refine wp_loop_rounds 3 ?_
  rw [rounds_succ]
  go_wp2
  refine wp_loop_rounds 3 ?_
  rw [rounds_succ]
  go_wp2_with fail
  refine (dot2 _ ba 0 4 bb 0 2 4 fa fb za zb A B (by omega) (by omega) (by omega) (fun j hj => by rw [Nat.zero_add]; exact (unhide Ha).data.cell (i := j) (by omega)) (fun j hj => by rw [Nat.zero_add]; exact (unhide Hb).data.cell (i := j) (by omega)) (fun j hj => (unhide Hra) j (by omega)) (fun j hj => (unhide Hrb) j (by omega)) hM).mono ?_
  rintro e w1 ⟨r0, rfl, R0, rfl⟩
  have H0 := hide R0
  clear R0
  go_wp2
  rw [rounds_succ]
  go_wp2_with fail
  refine (dot2 _ ba 0 4 bb 2 2 2 fa (fun j => fb (2 + j)) za (fun j => zb (2 + j)) A B (by omega) (by omega) (by omega) (fun j hj => by rw [Nat.zero_add]; (repeat refine (World.cell?_setCell_other _ _ _ _ (by intro e; exact n1 (congrArg Addr.block e))).trans ?_); exact (unhide Ha).data.cell (i := j) (by omega)) (fun j hj => by (repeat refine (World.cell?_setCell_other _ _ _ _ (by intro e; exact n2 (congrArg Addr.block e))).trans ?_); exact (unhide Hb).data.cell (i := 2 + j) (by omega)) (fun j hj => (unhide Hra) j (by omega)) (fun j hj => (unhide Hrb) (2 + j) (by omega)) hM).mono ?_
  rintro e w1 ⟨r1, rfl, R0, rfl⟩
  have H1 := hide R0
  clear R0
  go_wp2
  rw [rounds_succ]
  go_wp2
  rw [rounds_succ]
  go_wp2
  refine wp_loop_rounds 2 ?_
  rw [rounds_succ]
  go_wp2_with fail
  refine (dot2 _ ba 2 2 bb 2 2 2 (fun j => fa (2 + j)) (fun j => fb (2 + j)) (fun j => za (2 + j)) (fun j => zb (2 + j)) A B (by omega) (by omega) (by omega) (fun j hj => by (repeat refine (World.cell?_setCell_other _ _ _ _ (by intro e; exact n1 (congrArg Addr.block e))).trans ?_); exact (unhide Ha).data.cell (i := 2 + j) (by omega)) (fun j hj => by (repeat refine (World.cell?_setCell_other _ _ _ _ (by intro e; exact n2 (congrArg Addr.block e))).trans ?_); exact (unhide Hb).data.cell (i := 2 + j) (by omega)) (fun j hj => (unhide Hra) (2 + j) (by omega)) (fun j hj => (unhide Hrb) (2 + j) (by omega)) hM).mono ?_
  rintro e w1 ⟨r3, rfl, R0, rfl⟩
  have H3 := hide R0
  clear R0
  go_wp2
  rw [rounds_succ]
  go_wp2
  rw [rounds_succ]
  go_wp2
  go_end0
  have M := ((((((unhide Hd).set 0 r0).set 0 r0).set 1 r1).set 2 r1).set 3 r3).set 3 r3
  refine ⟨rfl, (((((((Fr.refl [bd] w).drewN _).setCell (.inl (by simp)) _).setCell (.inl (by simp)) _).setCell (.inl (by simp)) _).setCell (.inl (by simp)) _).setCell (.inl (by simp)) _).setCell (.inl (by simp)) _, by simp, _, ⟨M.head, M.data⟩, ?_, ?_, ?_, ?_⟩
  · rw [upd_other _ _ _ _ (by omega), upd_other _ _ _ _ (by omega), upd_other _ _ _ _ (by omega), upd_other _ _ _ _ (by omega), upd_same]; exact unhide H0
  · rw [upd_other _ _ _ _ (by omega), upd_other _ _ _ _ (by omega), upd_other _ _ _ _ (by omega), upd_same]; exact unhide H1
  · rw [upd_other _ _ _ _ (by omega), upd_other _ _ _ _ (by omega), upd_same]; exact unhide H1
  · rw [upd_same]; exact unhide H3

set_option maxRecDepth 100000 in
set_option maxHeartbeats 1000000 in
/-- 'Equal' of two matrices whose numbers compare equal. -/
theorem matEqual_any (w : World) (da ba db bb : Nat) (fa fb : Nat → Nat) (ma : Mat w da 2 2 ba fa) (mb : Mat w db 2 2 bb fb) (hs : ∀ i, i < 4 → Ieee.double.order (fa i) (fb i) = some .eq) :
    Calls Ybaf.prog 30 #[.pointer (some ⟨da, 0, none⟩), .pointer (some ⟨db, 0, none⟩)] w fun e w' => e = .returned (.bool true) ∧ ∃ q, w' = w.drewN q := by
  have a0 := ma.c0
  have a1 := ma.c1
  have a2 := ma.c2
  have b0 := mb.c0
  have b1 := mb.c1
  have b2 := mb.c2
  simp only [Nat.reduceMul] at a2 b2
  have Ha := hide ma
  have Hb := hide mb
  have Hs := hide hs
  clear ma mb hs
  go_enter Ybaf.func30, Ybaf.ntmps30
  go_wp2
  go_quiet ((go_at_call 38; exact Calls.quiet_of (equal_true _ ba 0 4 4 bb 0 4 fa fb (by omega) (fun j hj => by rw [Nat.zero_add]; exact (unhide Ha).data.cell (i := j) (by omega)) (fun j hj => by rw [Nat.zero_add]; exact (unhide Hb).data.cell (i := j) (by omega)) (unhide Hs))))
  go_wp2
  go_ret
  exact ⟨rfl, _, rfl⟩

/-- 'Finite'. -/
theorem finite_any (w : World) (d b : Nat) (f : Nat → Nat) (m : Mat w d 2 2 b f) (hf : ∀ i, i < 4 → Fin1 (f i)) :
    Calls Ybaf.prog 36 #[.pointer (some ⟨d, 0, none⟩)] w fun e w' => e = .returned (.bool true) ∧ w = w' := by
  have a2 := m.c2
  simp only [Nat.reduceMul] at a2
  have Hm := hide m
  have Hf := hide hf
  clear m hf
  go_enter Ybaf.func36, Ybaf.ntmps36
  go_wp2_with fail
  refine (fnf_any _ b 0 4 4 f (by omega) (fun j hj => by rw [Nat.zero_add]; exact (unhide Hm).data.cell (i := j) (by omega)) (unhide Hf)).mono ?_
  rintro e w' ⟨rfl, rfl⟩
  go_wp2
  go_ret
  exact ⟨rfl, rfl⟩
end Go.Proofs.YbulkaotqFmt.Wk
