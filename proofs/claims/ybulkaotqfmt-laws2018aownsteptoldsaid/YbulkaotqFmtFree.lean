/-
  'dot', 'MulVec' and 'AddMulVec' once more: the vectors' room to spare is of any size.
-/
import Derived.Test.YbulkaotqFmtMul
namespace Go.Proofs.YbulkaotqFmt.Wk
open Go.RowKit Fl

set_option maxHeartbeats 400000 in
theorem dot_free (w : World) (ba oa n ca bb ob mb cb : Nat) (fa fb s : Nat → Nat) (hn : n ≤ 1000) (hc : n ≤ cb) (_hmc : mb ≤ cb) (ha : ∀ i, i < n → w.cell? ⟨ba, oa + i, none⟩ = some (fv fa i)) (hb : ∀ i, i < n → w.cell? ⟨bb, ob + i, none⟩ = some (fv fb i))
    (hs0 : s 0 = 0) (hs : ∀ i, i < n → ∃ p, Ieee.double.mul (fa i) (fb i) = some p ∧ Ieee.double.add (s i) p = some (s (i + 1))) :
    Calls Ybaf.prog 43 #[.slice (some ⟨ba, oa, none⟩) n ca, .slice (some ⟨bb, ob, none⟩) mb cb] w fun e w' => e = .returned (.float .f64 (s n)) ∧ w = w' := by
  have Ha := hide ha
  have Hb := hide hb
  have Hs := hide hs
  have Hs0 := hide hs0
  clear ha hb hs hs0
  have hci : (n : Int) ≤ (cb : Int) := by omega
  go_enter Ybaf.func43, Ybaf.ntmps43
  go_wp2
  go_loop [5, 14] (fun v i => ∃ k : Nat, k ≤ n ∧ i = .int .i64 k ∧ v = .float .f64 (s k)) (fun _ i => n - (intOf i).toNat)
  case atStart => exact ⟨0, by omega, rfl, by rw [unhide Hs0]⟩
  case round =>
    obtain ⟨k, hk, rfl, rfl⟩ := hrel
    by_cases hkn : (k : Int) < (n : Int)
    · obtain ⟨p, h1, h2⟩ := (unhide Hs) k (by omega)
      have c1 := (unhide Ha) k (by omega)
      have c2 := (unhide Hb) k (by omega)
      unfold fv at c1 c2
      have H1 := hide h1
      have H2 := hide h2
      clear h1 h2
      go_wp2_with (go_at_call 52; refine (addProduct_any _ _ _ p _ (unhide H1) (unhide H2) _).mono ?_; rintro e w' ⟨rfl, rfl⟩)
      go_round
      case rel => exact ⟨k + 1, by omega, by go_num, rfl⟩
      case measure => simp [intOf]; omega
    · have hkk : k = n := by omega
      subst hkk
      go_wp2
      go_ret
      exact ⟨rfl, rfl⟩

theorem dot2f (w : World) (ba oa ca bb ob mb cb : Nat) (fa fb : Nat → Nat) (za zb : Nat → Int) (A B : Nat) (hc : 2 ≤ cb) (hmc : mb ≤ cb) (ha : ∀ i, i < 2 → w.cell? ⟨ba, oa + i, none⟩ = some (fv fa i)) (hb : ∀ i, i < 2 → w.cell? ⟨bb, ob + i, none⟩ = some (fv fb i))
    (ra : ∀ i, i < 2 → Rep (fa i) (za i) ∧ Bd (za i) A) (rb : ∀ i, i < 2 → Rep (fb i) (zb i) ∧ Bd (zb i) B) (hM : 2 * (A * B) < 9007199254740992) :
    Calls Ybaf.prog 43 #[.slice (some ⟨ba, oa, none⟩) 2 ca, .slice (some ⟨bb, ob, none⟩) mb cb] w fun e w' => ∃ r, e = .returned (.float .f64 r) ∧ Rep r (za 0 * zb 0 + za 1 * zb 1) ∧ w = w' := by
  obtain ⟨m0, s1, m1, s2, g1, g2, g3, g4, r4⟩ := steps2 (ra 0 (by omega)).1 (rb 0 (by omega)).1 (ra 1 (by omega)).1 (rb 1 (by omega)).1 (ra 0 (by omega)).2 (rb 0 (by omega)).2 (ra 1 (by omega)).2 (rb 1 (by omega)).2 hM
  refine (dot_free w ba oa 2 ca bb ob mb cb fa fb (fun i => if i = 0 then 0 else if i = 1 then s1 else s2) (by omega) hc hmc ha hb rfl ?_).mono fun e w' ⟨h1, h2⟩ => ⟨s2, h1, r4, h2⟩
  intro i hi
  match i, hi with
  | 0, _ => exact ⟨m0, g1, g2⟩
  | 1, _ => exact ⟨m1, g3, g4⟩
set_option maxRecDepth 100000 in
set_option maxHeartbeats 1000000 in
theorem mulVec_free (w : World) (bd d b bx cx : Nat) (g0 f fx : Nat → Nat) (za zx : Nat → Int) (A B : Nat) (hd : w.rowIs bd 26 2 (fv g0)) (m : Mat w d 2 2 b f) (hx : Vec w bx 2 cx fx) (n1 : bd ≠ b) (n2 : bd ≠ bx)
    (ra : ∀ i, i < 4 → Rep (f i) (za i) ∧ Bd (za i) A) (rb : ∀ i, i < 2 → Rep (fx i) (zx i) ∧ Bd (zx i) B) (hM : 2 * (A * B) < 9007199254740992) :
    Calls Ybaf.prog 33 #[.slice (some ⟨bd, 0, none⟩) 2 2, .pointer (some ⟨d, 0, none⟩), .slice (some ⟨bx, 0, none⟩) 2 cx] w fun e w' => e = .returned (.tuple #[]) ∧ Fr [bd] w w' ∧ w'.heap.size = w.heap.size ∧
      ∃ g, w'.rowIs bd 26 2 (fv g) ∧ ∀ i, i < 2 → Rep (g i) (za (i * 2) * zx 0 + za (i * 2 + 1) * zx 1) := by
  have hdd : bd ≠ d := fun e => row_ne hd m.head (by decide) e
  have c0 := m.c0
  have c1 := m.c1
  have Hd := hide hd
  have Hm := hide m
  have Hx := hide hx
  have Hra := hide ra
  have Hrb := hide rb
  clear hd m hx ra rb
  go_enter Ybaf.func33, Ybaf.ntmps33
  go_wp2
  go_loopw [29] (fun i wr => ∃ k : Nat, k ≤ 2 ∧ i = .int .i64 k ∧ Fr [bd] w wr ∧ wr.heap.size = w.heap.size ∧ ∃ g, wr.rowIs bd 26 2 (fv g) ∧ ∀ i, i < k → Rep (g i) (za (i * 2) * zx 0 + za (i * 2 + 1) * zx 1)) (fun i _ => 2 - (intOf i).toNat)
  case atStart => exact ⟨0, by omega, rfl, Fr.refl _ _, rfl, g0, unhide Hd, fun i hi => by omega⟩
  case round =>
    obtain ⟨k, hk, rfl, hfr, hsz, g, hrow, hg⟩ := hrel
    clear c0 c1
    by_cases hk2 : (k : Int) < 2
    · have mw := (unhide Hm).fr hfr (by simpa using Ne.symm hdd) (by simpa using Ne.symm n1)
      have xw := (unhide Hx).fr hfr (by simpa using Ne.symm n2)
      have e1 := hrow.cell (i := k) (by omega)
      have e2 := hrow.frozen k
      have Hmw := hide mw
      have Hxw := hide xw
      have Hfr := hide hfr
      have Hrow := hide hrow
      have Hg := hide hg
      have Hsz := hide hsz
      clear mw xw hfr hrow hg hsz
      go_wp2_with fail
      refine (row_run _ d 2 2 b f (unhide Hmw) ⟨.inr rfl, .inr rfl⟩ k (by omega)).mono ?_
      rintro e w2 ⟨rfl, q, rfl⟩
      go_wp2_with fail
      refine (dot2f (wr.drewN q) b (k * 2) (4 - k * 2) bx 0 2 cx (fun j => f (k * 2 + j)) fx (fun j => za (k * 2 + j)) zx A B (by obtain ⟨_, _, h, _⟩ := unhide Hx; exact h) (by obtain ⟨_, _, h, _⟩ := unhide Hx; exact h) (fun j hj => (unhide Hmw).data.cell (by omega)) (fun j hj => by rw [Nat.zero_add]; exact (unhide Hxw).cell hj) (fun j hj => (unhide Hra) _ (by omega)) (unhide Hrb) hM).mono ?_
      rintro e w3 ⟨r, rfl, hr, rfl⟩
      have hst := store_fl (w := wr.drewN q) (a := ⟨bd, k, none⟩) e1 e2
      have Hr := hide hr
      clear hr
      go_wp2
      go_roundw
      case rel =>
        refine ⟨k + 1, by omega, by go_num, ((unhide Hfr).drewN q).setCell (.inl (by simp)) _, by simp [unhide Hsz], upd g k r, fset (rowIs_drewN (unhide Hrow) q) k r, fun i hi => ?_⟩
        by_cases e : i = k
        · subst e; rw [upd_same]; exact unhide Hr
        · rw [upd_other _ _ _ _ e]; exact (unhide Hg) i (by omega)
      case measure => simp [intOf]; omega
    · have hkk : k = 2 := by omega
      subst hkk
      have Hfr := hide hfr
      have Hrow := hide hrow
      have Hg := hide hg
      have Hsz := hide hsz
      clear hfr hrow hg hsz
      go_wp2
      go_end0
      exact ⟨rfl, unhide Hfr, unhide Hsz, g, unhide Hrow, unhide Hg⟩

set_option maxRecDepth 100000 in
set_option maxHeartbeats 1000000 in
/-- 'AddMulVec' at a matrix of two rows and one column. -/
theorem addMulVec_free (w : World) (bd d b bx cx : Nat) (g0 f fx : Nat → Nat) (zd za : Nat → Int) (zx : Int) (A B D : Nat) (hd : w.rowIs bd 26 2 (fv g0)) (m : Mat w d 2 1 b f) (hx : Vec w bx 1 cx fx) (n1 : bd ≠ b) (n2 : bd ≠ bx)
    (rd : ∀ i, i < 2 → Rep (g0 i) (zd i) ∧ Bd (zd i) D) (ra : ∀ i, i < 2 → Rep (f i) (za i) ∧ Bd (za i) A) (rb : Rep (fx 0) zx ∧ Bd zx B) (hM : D + A * B < 9007199254740992) :
    Calls Ybaf.prog 34 #[.slice (some ⟨bd, 0, none⟩) 2 2, .pointer (some ⟨d, 0, none⟩), .slice (some ⟨bx, 0, none⟩) 1 cx] w fun e w' => e = .returned (.tuple #[]) ∧ Fr [bd] w w' ∧ w'.heap.size = w.heap.size ∧
      ∃ g, w'.rowIs bd 26 2 (fv g) ∧ ∀ i, i < 2 → Rep (g i) (zd i + za i * zx) := by
  have hdd : bd ≠ d := fun e => row_ne hd m.head (by decide) e
  have c0 := m.c0
  have c1 := m.c1
  have Hd := hide hd
  have Hm := hide m
  have Hx := hide hx
  have Hrd := hide rd
  have Hra := hide ra
  have Hrb := hide rb
  clear hd m hx ra rb rd
  go_enter Ybaf.func34, Ybaf.ntmps34
  go_wp2
  go_loopw [29] (fun i wr => ∃ k : Nat, k ≤ 2 ∧ i = .int .i64 k ∧ Fr [bd] w wr ∧ wr.heap.size = w.heap.size ∧ ∃ g, wr.rowIs bd 26 2 (fv g) ∧ (∀ i, i < k → Rep (g i) (zd i + za i * zx)) ∧ ∀ i, k ≤ i → g i = g0 i) (fun i _ => 2 - (intOf i).toNat)
  case atStart => exact ⟨0, by omega, rfl, Fr.refl _ _, rfl, g0, unhide Hd, fun i hi => by omega, fun i _ => rfl⟩
  case round =>
    obtain ⟨k, hk, rfl, hfr, hsz, g, hrow, hg, hg2⟩ := hrel
    clear c0 c1
    by_cases hk2 : (k : Int) < 2
    · have mw := (unhide Hm).fr hfr (by simpa using Ne.symm hdd) (by simpa using Ne.symm n1)
      have xw := (unhide Hx).fr hfr (by simpa using Ne.symm n2)
      obtain ⟨p, hp, rp⟩ := mul_rep ((unhide Hra) k (by omega)).1 (unhide Hrb).1 ((((unhide Hra) k (by omega)).2.mul (unhide Hrb).2).small (by omega))
      obtain ⟨p', hp', rp'⟩ := add_rep rep0 rp (by rw [Int.zero_add]; exact (((unhide Hra) k (by omega)).2.mul (unhide Hrb).2).small (by omega))
      rw [Int.zero_add] at rp'
      obtain ⟨r, hr, rr⟩ := add_rep ((unhide Hrd) k (by omega)).1 rp' ((((unhide Hrd) k (by omega)).2.add (((unhide Hra) k (by omega)).2.mul (unhide Hrb).2)).small hM)
      have e1 : wr.cell? ⟨bd, k, none⟩ = some (.float .f64 (g0 k)) := by rw [hrow.cell (by omega), fv, hg2 k (Nat.le_refl _)]
      have e2 := hrow.frozen k
      have ar := add_run hr
      have hst := fun q => store_fl (w := wr.drewN q) (a := ⟨bd, k, none⟩) e1 e2
      have hc2 : 1 ≤ cx := by obtain ⟨_, _, h, _⟩ := unhide Hx; exact h
      have HD := hide (fun (i : Nat) (hi : i < 1) => show ∃ p, Ieee.double.mul (f (k + i)) (fx i) = some p ∧ Ieee.double.add (if i = 0 then 0 else p') p = some (if i + 1 = 0 then 0 else p') by
        match i, hi with
        | 0, _ => exact ⟨p, hp, hp'⟩)
      have Hmw := hide mw
      have Hxw := hide xw
      have Hfr := hide hfr
      have Hrow := hide hrow
      have Hg := hide hg
      have Hg2 := hide hg2
      have Hsz := hide hsz
      have Hrr := hide rr
      clear mw xw hfr hrow hg hsz hg2 hr rr hp rp hp' rp'
      go_wp2
      go_region_with (first | (go_at_call 26; refine (row_run _ d 2 1 b f ?_ ⟨.inr rfl, .inl rfl⟩ k (by omega)).mono ?_; (exact ⟨(unhide Hmw).head, (unhide Hmw).data⟩); rintro e w' ⟨rfl, q, rfl⟩) | (go_at_call 43; refine (dot_free _ b k 1 (2 - k) bx 0 1 cx (fun j => f (k + j)) fx (fun i => if i = 0 then 0 else p') (by omega) hc2 hc2 ?_ ?_ rfl (unhide HD)).mono ?_; (exact fun j hj => (unhide Hmw).data.cell (by omega)); (exact fun j hj => by rw [Nat.zero_add]; exact (unhide Hxw).cell hj); rintro e w' ⟨rfl, rfl⟩))
      all_goals
        go_wp2
        go_roundw
        case rel =>
          refine ⟨k + 1, by omega, by go_num, ?_, by simp [unhide Hsz], upd g k r, fset (unhide Hrow) k r, fun i hi => ?_, fun i hi => ?_⟩
          · first | exact ((unhide Hfr).setCell (.inl (by simp)) _).drewN _ | exact ((unhide Hfr).drewN _).setCell (.inl (by simp)) _ | exact ((unhide Hfr).setCell (.inl (by simp)) _).drew
          · by_cases e : i = k
            · subst e; rw [upd_same]; exact unhide Hrr
            · rw [upd_other _ _ _ _ e]; exact (unhide Hg) i (by omega)
          · rw [upd_other _ _ _ _ (by omega)]; exact (unhide Hg2) i (by omega)
        case measure => simp [intOf]; omega
    · have hkk : k = 2 := by omega
      subst hkk
      have Hfr := hide hfr
      have Hrow := hide hrow
      have Hg := hide hg
      have Hsz := hide hsz
      clear hfr hrow hg hsz hg2
      go_wp2
      go_end0
      exact ⟨rfl, unhide Hfr, unhide Hsz, g, unhide Hrow, unhide Hg⟩
end Go.Proofs.YbulkaotqFmt.Wk
