/-
  'predictInto' (21), with and without a control value.
-/
import Derived.Test.YbulkaotqFmtFree
import Derived.Test.YbulkaotqFmtSand
namespace Go.Proofs.YbulkaotqFmt.Wk
open Go.RowKit Fl

/-- What 'predictInto' is told. -/
structure Pre (w : World) (bo dd bd dt bt da ba dp bp dq bq bx cx : Nat) (g0 gd gt fa fp fq fx : Nat → Nat) (za zp zq zx : Nat → Int) (A B C X : Nat) : Prop where
  five : Five w dd bd dt bt da ba dp bp dq bq gd gt fa fp fq za zp zq A B C
  out : w.rowIs bo 26 2 (fv g0)
  vec : Vec w bx 2 cx fx
  rx : ∀ i, i < 2 → Rep (fx i) (zx i) ∧ Bd (zx i) X
  m1 : bo ≠ ba
  m2 : bo ≠ bx
  m3 : bo ≠ bd
  m4 : bo ≠ bt
  m5 : bo ≠ bp
  m6 : bo ≠ bq
  hX : 2 * (A * X) < 9007199254740992
/-- The control input and what it adds. -/
def Ctl (w : World) (bo : Nat) (vb vu : Value) (M : Nat) (c : Nat → Int) : Prop :=
  (vu = .slice none 0 0 ∧ c = fun _ => 0) ∨
  (∃ (db bb : Nat) (fb : Nat → Nat) (zb : Nat → Int) (bu cu : Nat) (fu : Nat → Nat) (zu : Int) (K U : Nat), vb = .pointer (some ⟨db, 0, none⟩) ∧ Mat w db 2 1 bb fb ∧ vu = .slice (some ⟨bu, 0, none⟩) 1 cu ∧ Vec w bu 1 cu fu ∧ bo ≠ bb ∧ bo ≠ bu ∧
    (∀ i, i < 2 → Rep (fb i) (zb i) ∧ Bd (zb i) K) ∧ (Rep (fu 0) zu ∧ Bd zu U) ∧ M + K * U < 9007199254740992 ∧ c = fun i => zb i * zu)

theorem nin1 {a b : Nat} (h : a ≠ b) : b ∉ [a] := by simpa using Ne.symm h
theorem Five.fr {w w' : World} {dd bd dt bt da ba dp bp dq bq : Nat} {g0 h0 fa fp fq : Nat → Nat} {za zp zq : Nat → Int} {A B C bo : Nat} {g : Nat → Nat} (F : Five w dd bd dt bt da ba dp bp dq bq g0 h0 fa fp fq za zp zq A B C) (k : Fr [bo] w w') (o : w.rowIs bo 26 2 (fv g))
    (m1 : bo ≠ ba) (m3 : bo ≠ bd) (m4 : bo ≠ bt) (m5 : bo ≠ bp) (m6 : bo ≠ bq) : Five w' dd bd dt bt da ba dp bp dq bq g0 h0 fa fp fq za zp zq A B C :=
  { md := F.md.fr k (by simpa using row_ne F.md.head o (by decide)) (nin1 m3), mt := F.mt.fr k (by simpa using row_ne F.mt.head o (by decide)) (nin1 m4)
    ma := F.ma.fr k (by simpa using row_ne F.ma.head o (by decide)) (nin1 m1), mp := F.mp.fr k (by simpa using row_ne F.mp.head o (by decide)) (nin1 m5), mq := F.mq.fr k (by simpa using row_ne F.mq.head o (by decide)) (nin1 m6)
    ra := F.ra, rp := F.rp, rq := F.rq, n1 := F.n1, n2 := F.n2, n3 := F.n3, n4 := F.n4, n5 := F.n5, n6 := F.n6, n7 := F.n7, hM := F.hM, hN := F.hN }

/-- What it answers for the covariance. -/
def PNew (g : Nat → Nat) (za zp zq : Nat → Int) : Prop := Rep (g 0) (sz za (tz za zp) 0 + zq 0) ∧ Rep (g 1) (sz za (tz za zp) 2 + zq 1) ∧ Rep (g 2) (sz za (tz za zp) 2 + zq 1) ∧ Rep (g 3) (sz za (tz za zp) 3 + zq 3)

set_option maxRecDepth 100000 in
set_option maxHeartbeats 1000000 in
theorem predictInto_any (w : World) (bo dd bd dt bt da ba dp bp dq bq bx cx : Nat) (g0 gd gt fa fp fq fx : Nat → Nat) (za zp zq zx c : Nat → Int) (A B C X : Nat) (vb vu : Value) (H : Pre w bo dd bd dt bt da ba dp bp dq bq bx cx g0 gd gt fa fp fq fx za zp zq zx A B C X)
    (hc : Ctl w bo vb vu (2 * (A * X)) c) :
    Calls Ybaf.prog 21 #[.slice (some ⟨bo, 0, none⟩) 2 2, .pointer (some ⟨dd, 0, none⟩), .pointer (some ⟨dt, 0, none⟩), .pointer (some ⟨da, 0, none⟩), vb, .pointer (some ⟨dq, 0, none⟩), .slice (some ⟨bx, 0, none⟩) 2 cx, .pointer (some ⟨dp, 0, none⟩), vu] w fun e w' =>
      e = .returned (.tuple #[]) ∧ Fr [bo, bd, bt] w w' ∧ w'.heap.size = w.heap.size ∧ (∃ g, w'.rowIs bo 26 2 (fv g) ∧ ∀ i, i < 2 → Rep (g i) (za (i * 2) * zx 0 + za (i * 2 + 1) * zx 1 + c i)) ∧ ∃ g, Mat w' dd 2 2 bd g ∧ PNew g za zp zq := by
  have HH := hide H
  clear H
  go_enter Ybaf.func21, Ybaf.ntmps21
  go_wp2_with fail
  refine (mulVec_free _ bo da ba bx cx g0 fa fx za zx A X (unhide HH).out (unhide HH).five.ma (unhide HH).vec (unhide HH).m1 (unhide HH).m2 (unhide HH).five.ra (unhide HH).rx (unhide HH).hX).mono ?_
  rintro e w1 ⟨rfl, hfr, hsz, g, hrow, hg⟩
  rcases hc with ⟨rfl, rfl⟩ | ⟨db, bb, fb, zb, bu, cu, fu, zu, K, U, rfl, mB, rfl, vU, o1, o2, rB, rU, hM, rfl⟩
  · have H5 := hide ((unhide HH).five.fr hfr (unhide HH).out (unhide HH).m1 (unhide HH).m3 (unhide HH).m4 (unhide HH).m5 (unhide HH).m6)
    have Hfr := hide hfr
    have Hsz := hide hsz
    have Hrow := hide hrow
    have Hg := hide hg
    clear hfr hsz hrow hg
    go_wp2_with fail
    refine (sandwich_any _ dd bd dt bt da ba dp bp dq bq gd gt fa fp fq za zp zq A B C (unhide H5)).mono ?_
    rintro e w2 ⟨rfl, hfr2, hsz2, gp, mp, hp⟩
    have F1 := (unhide Hfr).mono (T := [bo, bd, bt]) (fun k _ hk => by simp at hk; simp [hk])
    have F2 := hfr2.mono (T := [bo, bd, bt]) (fun k _ hk => by simp at hk; rcases hk with h | h <;> simp [h])
    have R := hfr2.row (unhide Hrow) (by simp; exact ⟨(unhide HH).m3, (unhide HH).m4⟩)
    have E : w2.heap.size = w.heap.size := hsz2.trans (unhide Hsz)
    have HR := hide (And.intro (F1.trans F2) (And.intro R (And.intro E (And.intro mp hp))))
    clear F1 F2 R E mp hp hfr2 hsz2
    go_wp2
    go_end0
    exact ⟨rfl, (unhide HR).1, (unhide HR).2.2.1, ⟨g, (unhide HR).2.1, fun i hi => by simpa using (unhide Hg) i hi⟩, gp, (unhide HR).2.2.2.1, (unhide HR).2.2.2.2⟩
  · have mB1 := mB.fr hfr (by simpa using row_ne mB.head (unhide HH).out (by decide)) (nin1 o1)
    have vU1 := vU.fr hfr (nin1 o2)
    have rD : ∀ i, i < 2 → Rep (g i) (za (i * 2) * zx 0 + za (i * 2 + 1) * zx 1) ∧ Bd (za (i * 2) * zx 0 + za (i * 2 + 1) * zx 1) (2 * (A * X)) := fun i hi => ⟨hg i hi, by
      have h := (((unhide HH).five.ra (i * 2) (by omega)).2.mul ((unhide HH).rx 0 (by omega)).2).add (((unhide HH).five.ra (i * 2 + 1) (by omega)).2.mul ((unhide HH).rx 1 (by omega)).2)
      rw [← Nat.two_mul] at h; exact h⟩
    have H5 := hide ((unhide HH).five.fr hfr (unhide HH).out (unhide HH).m1 (unhide HH).m3 (unhide HH).m4 (unhide HH).m5 (unhide HH).m6)
    have Hfr := hide hfr
    have Hsz := hide hsz
    have Hrow := hide hrow
    have HB := hide mB1
    have HU := hide vU1
    have HrD := hide rD
    have HrB := hide rB
    have HrU := hide rU
    clear hfr hsz hrow hg mB mB1 vU vU1 rD rB rU
    go_wp2_with fail
    refine (addMulVec_free _ bo db bb bu cu g fb fu (fun i => za (i * 2) * zx 0 + za (i * 2 + 1) * zx 1) zb zu K U (2 * (A * X)) (unhide Hrow) (unhide HB) (unhide HU) o1 o2 (unhide HrD) (unhide HrB) (unhide HrU) hM).mono ?_
    rintro e w2 ⟨rfl, hfr, hsz, g2, hrow, hg⟩
    have H6 := hide ((unhide H5).fr hfr (unhide Hrow) (unhide HH).m1 (unhide HH).m3 (unhide HH).m4 (unhide HH).m5 (unhide HH).m6)
    have Hfr2 := hide ((unhide Hfr).trans hfr)
    have Hsz2 := hide (hsz.trans (unhide Hsz))
    have Hrow2 := hide hrow
    have Hg := hide hg
    clear hfr hsz hrow hg
    go_wp2_with fail
    refine (sandwich_any _ dd bd dt bt da ba dp bp dq bq gd gt fa fp fq za zp zq A B C (unhide H6)).mono ?_
    rintro e w3 ⟨rfl, hfr2, hsz2, gp, mp, hp⟩
    have F1 := (unhide Hfr2).mono (T := [bo, bd, bt]) (fun k _ hk => by simp at hk; simp [hk])
    have F2 := hfr2.mono (T := [bo, bd, bt]) (fun k _ hk => by simp at hk; rcases hk with h | h <;> simp [h])
    have R := hfr2.row (unhide Hrow2) (by simp; exact ⟨(unhide HH).m3, (unhide HH).m4⟩)
    have E : w3.heap.size = w.heap.size := hsz2.trans (unhide Hsz2)
    have HR := hide (And.intro (F1.trans F2) (And.intro R (And.intro E (And.intro mp hp))))
    clear F1 F2 R E mp hp hfr2 hsz2
    go_wp2
    go_end0
    exact ⟨rfl, (unhide HR).1, (unhide HR).2.2.1, ⟨g2, (unhide HR).2.1, unhide Hg⟩, gp, (unhide HR).2.2.2.1, (unhide HR).2.2.2.2⟩
end Go.Proofs.YbulkaotqFmt.Wk
