/-
  'Sandwich' (35) at matrices of two rows and columns, whole numbers in them: dst = a b aT + c.
-/
import Derived.Test.YbulkaotqFmtIntoL
import Derived.Test.YbulkaotqFmtPos
namespace Go.Proofs.YbulkaotqFmt.Wk
open Go.RowKit Fl
attribute [local go_sem] store_fl1

/-- The first product, laid down by columns. -/
def tz (za zp : Nat → Int) : Nat → Int
  | 0 => za 0 * zp 0 + za 1 * zp 2
  | 1 => za 2 * zp 0 + za 3 * zp 2
  | 2 => za 0 * zp 1 + za 1 * zp 3
  | 3 => za 2 * zp 1 + za 3 * zp 3
  | _ => 0
theorem tz_bd {za zp : Nat → Int} {A B : Nat} (ha : ∀ i, i < 4 → Bd (za i) A) (hp : ∀ i, i < 4 → Bd (zp i) B) : ∀ i, i < 4 → Bd (tz za zp i) (2 * (A * B))
  | 0, _ => by have h := ((ha 0 (by omega)).mul (hp 0 (by omega))).add ((ha 1 (by omega)).mul (hp 2 (by omega))); rw [← Nat.two_mul] at h; exact h
  | 1, _ => by have h := ((ha 2 (by omega)).mul (hp 0 (by omega))).add ((ha 3 (by omega)).mul (hp 2 (by omega))); rw [← Nat.two_mul] at h; exact h
  | 2, _ => by have h := ((ha 0 (by omega)).mul (hp 1 (by omega))).add ((ha 1 (by omega)).mul (hp 3 (by omega))); rw [← Nat.two_mul] at h; exact h
  | 3, _ => by have h := ((ha 2 (by omega)).mul (hp 1 (by omega))).add ((ha 3 (by omega)).mul (hp 3 (by omega))); rw [← Nat.two_mul] at h; exact h
  | n + 4, h => absurd h (by omega)
/-- The second. -/
def sz (za t : Nat → Int) : Nat → Int
  | 0 => za 0 * t 0 + za 1 * t 2
  | 2 => za 2 * t 0 + za 3 * t 2
  | 3 => za 2 * t 1 + za 3 * t 3
  | _ => 0
theorem sz_bd {za t : Nat → Int} {A B : Nat} (ha : ∀ i, i < 4 → Bd (za i) A) (hp : ∀ i, i < 4 → Bd (t i) B) : Bd (sz za t 0) (2 * (A * B)) ∧ Bd (sz za t 2) (2 * (A * B)) ∧ Bd (sz za t 3) (2 * (A * B)) := by
  refine ⟨?_, ?_, ?_⟩
  · have h := ((ha 0 (by omega)).mul (hp 0 (by omega))).add ((ha 1 (by omega)).mul (hp 2 (by omega))); rw [← Nat.two_mul] at h; exact h
  · have h := ((ha 2 (by omega)).mul (hp 0 (by omega))).add ((ha 3 (by omega)).mul (hp 2 (by omega))); rw [← Nat.two_mul] at h; exact h
  · have h := ((ha 2 (by omega)).mul (hp 1 (by omega))).add ((ha 3 (by omega)).mul (hp 3 (by omega))); rw [← Nat.two_mul] at h; exact h

/-- What the walk is told. -/
structure Five (w : World) (dd bd dt bt da ba dp bp dq bq : Nat) (g0 h0 fa fp fq : Nat → Nat) (za zp zq : Nat → Int) (A B C : Nat) : Prop where
  md : Mat w dd 2 2 bd g0
  mt : Mat w dt 2 2 bt h0
  ma : Mat w da 2 2 ba fa
  mp : Mat w dp 2 2 bp fp
  mq : Mat w dq 2 2 bq fq
  ra : ∀ i, i < 4 → Rep (fa i) (za i) ∧ Bd (za i) A
  rp : ∀ i, i < 4 → Rep (fp i) (zp i) ∧ Bd (zp i) B
  rq : ∀ i, i < 4 → Rep (fq i) (zq i) ∧ Bd (zq i) C
  n1 : bd ≠ bt
  n2 : bd ≠ ba
  n3 : bd ≠ bp
  n4 : bd ≠ bq
  n5 : bt ≠ ba
  n6 : bt ≠ bp
  n7 : bt ≠ bq
  hM : 2 * (A * (2 * (A * B))) + C < 9007199254740992
  hN : 2 * (A * B) < 9007199254740992

set_option maxRecDepth 100000 in
set_option maxHeartbeats 4000000 in
theorem sandwich_any (w : World) (dd bd dt bt da ba dp bp dq bq : Nat) (g0 h0 fa fp fq : Nat → Nat) (za zp zq : Nat → Int) (A B C : Nat) (F : Five w dd bd dt bt da ba dp bp dq bq g0 h0 fa fp fq za zp zq A B C) :
    Calls Ybaf.prog 35 #[.pointer (some ⟨dd, 0, none⟩), .pointer (some ⟨dt, 0, none⟩), .pointer (some ⟨da, 0, none⟩), .pointer (some ⟨dp, 0, none⟩), .pointer (some ⟨dq, 0, none⟩)] w fun e w' => e = .returned (.tuple #[]) ∧ Fr [bd, bt] w w' ∧ w'.heap.size = w.heap.size ∧
      ∃ g, Mat w' dd 2 2 bd g ∧ Rep (g 0) (sz za (tz za zp) 0 + zq 0) ∧ Rep (g 1) (sz za (tz za zp) 2 + zq 1) ∧ Rep (g 2) (sz za (tz za zp) 2 + zq 1) ∧ Rep (g 3) (sz za (tz za zp) 3 + zq 3) := by
  have a0 := F.ma.c0
  have a1 := F.ma.c1
  have p0 := F.mp.c0
  have p1 := F.mp.c1
  have d0 := F.md.c0
  have d1 := F.md.c1
  have t0 := F.mt.c0
  have t1 := F.mt.c1
  have t2 := F.mt.c2
  have q0 := F.mq.c0
  have q1 := F.mq.c1
  simp only [Nat.reduceMul] at t2
  have HF := hide F
  clear F
  go_enter Ybaf.func35, Ybaf.ntmps35
  go_wp2
  go_quiet (fail)
  go_wp2_with fail
  refine (into_t _ bt da ba dp bp h0 fa fp za zp A B ⟨by exact ⟨(unhide HF).ma.head, (unhide HF).ma.data⟩, by exact ⟨(unhide HF).mp.head, (unhide HF).mp.data⟩, (unhide HF).ra, (unhide HF).rp⟩ (by exact (unhide HF).mt.data) (unhide HF).n5 (unhide HF).n6 (unhide HF).hN).mono ?_
  rintro e w2 ⟨rfl, hfr, hsz, h1, hrow, T0, T1, T2, T3⟩
  have hfr2 : Fr [bt] w w2 := ((Fr.refl [bt] w).drewN _).trans hfr
  have htd : dt ≠ bt := (unhide HF).mt.ne
  have xa : da ∉ [bt] := by simpa using row_ne (unhide HF).ma.head (unhide HF).mt.data (by decide)
  have xd : dd ∉ [bt] := by simpa using row_ne (unhide HF).md.head (unhide HF).mt.data (by decide)
  have xq : dq ∉ [bt] := by simpa using row_ne (unhide HF).mq.head (unhide HF).mt.data (by decide)
  have xt : dt ∉ [bt] := by simpa using htd
  have ma2 := (unhide HF).ma.fr hfr2 xa (by simpa using Ne.symm (unhide HF).n5)
  have md2 := (unhide HF).md.fr hfr2 xd (by simpa using (unhide HF).n1)
  have mq2 := (unhide HF).mq.fr hfr2 xq (by simpa using Ne.symm (unhide HF).n7)
  have mt2 : Mat w2 dt 2 2 bt h1 := ⟨hfr2.row (unhide HF).mt.head xt, hrow⟩
  have F2 : Fac w2 da ba dt bt fa h1 za (tz za zp) A (2 * (A * B)) := ⟨ma2, mt2, (unhide HF).ra, fun i hi => ⟨by
    match i, hi with
    | 0, _ => exact T0
    | 1, _ => exact T1
    | 2, _ => exact T2
    | 3, _ => exact T3, tz_bd (fun i hi => ((unhide HF).ra i hi).2) (fun i hi => ((unhide HF).rp i hi).2) i hi⟩⟩
  have y2 := md2.c2
  simp only [Nat.reduceMul] at y2
  have HF2 := hide F2
  have Hmd2 := hide md2
  have Hmq2 := hide mq2
  have Hfr2 := hide hfr2
  have Hsz := hide hsz
  clear hfr hsz hrow T0 T1 T2 T3 hfr2 ma2 md2 mq2 mt2 F2 a0 a1 p0 p1 d0 d1 t0 t1 t2 q0 q1 xa xd xq xt htd
  go_wp2_with fail
  refine (into_l _ bd da ba dt bt g0 fa h1 za (tz za zp) A (2 * (A * B)) (unhide HF2) (unhide Hmd2).data (unhide HF).n2 (unhide HF).n1 (by have := (unhide HF).hM; omega)).mono ?_
  rintro e w3 ⟨rfl, hfr, hsz, g, hrow, S0, S1, S2, S3⟩
  have md3 : Mat w3 dd 2 2 bd g := ⟨hfr.row (unhide Hmd2).head (by simpa using (unhide Hmd2).ne), hrow⟩
  have mq3 := (unhide Hmq2).fr hfr (by simpa using row_ne (unhide Hmq2).head (unhide Hmd2).data (by decide)) (by simpa using Ne.symm (unhide HF).n4)
  obtain ⟨sb0, sb2, sb3⟩ := sz_bd (za := za) (t := tz za zp) (fun i hi => ((unhide HF).ra i hi).2) (tz_bd (fun i hi => ((unhide HF).ra i hi).2) (fun i hi => ((unhide HF).rp i hi).2))
  obtain ⟨v0, A0, V0⟩ := add_rep S0 ((unhide HF).rq 0 (by omega)).1 ((sb0.add ((unhide HF).rq 0 (by omega)).2).small (unhide HF).hM)
  obtain ⟨v2, A2, V2⟩ := add_rep S2 ((unhide HF).rq 1 (by omega)).1 ((sb2.add ((unhide HF).rq 1 (by omega)).2).small (unhide HF).hM)
  obtain ⟨v3, A3, V3⟩ := add_rep S3 ((unhide HF).rq 3 (by omega)).1 ((sb3.add ((unhide HF).rq 3 (by omega)).2).small (unhide HF).hM)
  have z2 := md3.c2
  have u2 := mq3.c2
  simp only [Nat.reduceMul] at z2 u2
  have e0 := md3.data.cell (i := 0) (by omega)
  have e1 := md3.data.cell (i := 1) (by omega)
  have e2 := md3.data.cell (i := 2) (by omega)
  have e3 := md3.data.cell (i := 3) (by omega)
  have i0 := mq3.data.cell (i := 0) (by omega)
  have i1 := mq3.data.cell (i := 1) (by omega)
  have i3 := mq3.data.cell (i := 3) (by omega)
  unfold fv at e0 e1 e2 e3 i0 i1 i3
  have f0 := md3.data.frozen 0
  have f1 := md3.data.frozen 1
  have f2 := md3.data.frozen 2
  have f3 := md3.data.frozen 3
  have k1 : bd ≠ dd := Ne.symm md3.ne
  have k2 : bd ≠ dq := Ne.symm (row_ne mq3.head md3.data (by decide))
  have k3 : bd ≠ bq := (unhide HF).n4
  have k1' := Ne.symm k1
  have k2' := Ne.symm k2
  have k3' := Ne.symm k3
  have ar0 := add_run A0
  have ar2 := add_run A2
  have ar3 := add_run A3
  have Hm3 := hide md3
  have Hfr3 := hide ((unhide Hfr2).mono (T := [bd, bt]) (fun k _ hk => by simp at hk; simp [hk]) |>.trans (hfr.mono (T := [bd, bt]) (fun k _ hk => by simp at hk; simp [hk])))
  have Hsz3 := hide (hsz.trans (unhide Hsz))
  have HV := hide (And.intro V0 (And.intro V2 V3))
  have hw0 : IntKind.i64.wrap 0 = 0 := by decide
  have hw1 : IntKind.i64.wrap 1 = 1 := by decide
  have hw2 : IntKind.i64.wrap 2 = 2 := by decide
  have hw3 : IntKind.i64.wrap 3 = 3 := by decide
  clear hfr hsz hrow S0 S1 S2 S3 md3 mq3 sb0 sb2 sb3 A0 A2 A3 V0 V2 V3 y2
  go_wp2
  refine wp_loop_rounds 3 ?_
  rw [rounds_succ]
  go_wp2
  refine wp_loop_rounds 2 ?_
  rw [rounds_succ]
  go_wp2
  go_region
  go_wp2
  rw [rounds_succ]
  go_wp2
  refine wp_loop_rounds 1 ?_
  rw [rounds_succ]
  go_wp2
  rw [rounds_succ]
  go_wp2
  refine wp_loop_rounds 3 ?_
  rw [rounds_succ]
  go_wp2
  go_region
  go_wp2
  rw [rounds_succ]
  go_wp2
  go_region
  go_wp2
  rw [rounds_succ]
  go_wp2
  refine wp_loop_rounds 2 ?_
  rw [rounds_succ]
  go_wp2
  rw [rounds_succ]
  go_wp2
  rw [rounds_succ]
  go_wp2
  go_end0
  have M := ((((unhide Hm3).set 0 v0).set 2 v2).set 3 v3).set 1 v2
  refine ⟨rfl, (((((((unhide Hfr3).setCell (.inl (by simp)) _).setCell (.inl (by simp)) _).setCell (.inl (by simp)) _).setCell (.inl (by simp)) _).drew).drew).drew, Eq.trans (by simp) (unhide Hsz3), _, ⟨M.head, M.data⟩, ?_, ?_, ?_, ?_⟩
  · rw [upd_other _ _ _ _ (by omega), upd_other _ _ _ _ (by omega), upd_other _ _ _ _ (by omega), upd_same]; exact (unhide HV).1
  · rw [upd_same]; exact (unhide HV).2.1
  · rw [upd_other _ _ _ _ (by omega), upd_other _ _ _ _ (by omega), upd_same]; exact (unhide HV).2.1
  · rw [upd_other _ _ _ _ (by omega), upd_same]; exact (unhide HV).2.2
end Go.Proofs.YbulkaotqFmt.Wk
