/-
  THE WALK OF 'replayLamport' (function 10).
-/
import Derived.Test.YbulkaomcRows
import Derived.Test.YbulkaomcLamp
import Derived.WalkKit
import Derived.WalkSpells
import Derived.WalkLawsBesides
import Derived.Deep.OwnRows
import Derived.BigRegion
namespace Go.Proofs.Ybulkaomc
open Go.RowKit Lamp

theorem hide' {p : Prop} (h : p) : Hid p := h
theorem unhide' {p : Prop} (h : Hid p) : p := h

/-- Cell c of the row of events, the first k of them filled. -/
def evf (H S : Nat → Int) (k : Nat) (c : Nat) : Value :=
  if c % 4 = 1 then .slice none 0 0 else if c / 4 < k ∧ c % 4 = 0 then .int .i64 (H (c / 4)) else if c / 4 < k ∧ c % 4 = 2 then .int .i64 (S (c / 4)) else .int .i64 0
/-- Cell j of a row of stamps, the first k of them filled. -/
def stf (L : Nat → Int) (k : Nat) (j : Nat) : Value := .int .u64 (if j < k then L j else 0)

theorem evf_0 (H S : Nat → Int) (n k : Nat) (h : k < n) : evf H S n (k * 4) = .int .i64 (H k) := by
  have e1 : k * 4 % 4 = 0 := by omega
  have e2 : k * 4 / 4 = k := by omega
  simp [evf, e1, e2, h]
theorem evf_1 (H S : Nat → Int) (n k : Nat) : evf H S n (k * 4 + 1) = .slice none 0 0 := by
  have e1 : (k * 4 + 1) % 4 = 1 := by omega
  simp [evf, e1]
theorem evf_2 (H S : Nat → Int) (n k : Nat) (h : k < n) : evf H S n (k * 4 + 2) = .int .i64 (S k) := by
  have e1 : (k * 4 + 2) % 4 = 2 := by omega
  have e2 : (k * 4 + 2) / 4 = k := by omega
  simp [evf, e1, e2, h]
theorem evf_3 (H S : Nat → Int) (n k : Nat) : evf H S n (k * 4 + 3) = .int .i64 0 := by
  have e1 : (k * 4 + 3) % 4 = 3 := by omega
  simp [evf, e1]

theorem info35 : (Yba.prog.info? 35).map (fun i => (i.zero, i.size, i.bytes)) = some (some (.int .u64 0), 1, 8) := by kernel_rfl
theorem cells39 : Yba.prog.cellsOf 39 = 4 := by kernel_rfl

/-- What one round does to the two rows. -/
theorem rel_step {w wr : World} {k n len hn : Nat} {H S : Nat → Int} {y : Int} (o : Obj) (r1 : wr.rowIs w.heap.size 35 len (stf (lam H S) k)) (r2 : wr.rowIs (w.heap.size + 1) 35 n (fun h => .int .u64 (back H (lam H S) k (h : Int))))
    (hbel : Below w.heap.size w wr) (ehn : H k = hn) (hy : lam H S k = y) :
    (((wr.setCell ⟨w.heap.size, k, none⟩ (.int .u64 y)).setCell ⟨w.heap.size + 1, hn, none⟩ (.int .u64 y)).alloc o).drew.rowIs w.heap.size 35 len (stf (lam H S) (k + 1)) ∧
    (((wr.setCell ⟨w.heap.size, k, none⟩ (.int .u64 y)).setCell ⟨w.heap.size + 1, hn, none⟩ (.int .u64 y)).alloc o).drew.rowIs (w.heap.size + 1) 35 n (fun h => .int .u64 (back H (lam H S) (k + 1) (h : Int))) ∧
    Below w.heap.size w (((wr.setCell ⟨w.heap.size, k, none⟩ (.int .u64 y)).setCell ⟨w.heap.size + 1, hn, none⟩ (.int .u64 y)).alloc o).drew := by
  refine ⟨((((r1.set k (.int .u64 y)).setOther (a := ⟨w.heap.size + 1, hn, none⟩) (by simp) (.int .u64 y)).alloc o).drew).congr ?_, ((((r2.setOther (a := ⟨w.heap.size, k, none⟩) (by simp) (.int .u64 y)).set hn (.int .u64 y)).alloc o).drew).congr ?_, ?_⟩
  · intro i _
    show (if i = k then Value.int .u64 y else stf (lam H S) k i) = stf (lam H S) (k + 1) i
    unfold stf
    by_cases e : i = k
    · subst e; rw [if_pos rfl, if_pos (by omega), hy]
    · rw [if_neg e]
      by_cases e2 : i < k
      · rw [if_pos e2, if_pos (by omega)]
      · rw [if_neg e2, if_neg (by omega)]
  · intro i _
    show (if i = hn then Value.int .u64 y else .int .u64 (back H (lam H S) k (i : Int))) = .int .u64 (back H (lam H S) (k + 1) (i : Int))
    by_cases e : i = hn
    · subst e; rw [if_pos rfl]; simp [back, ehn, hy]
    · have e' : ¬ H k = (i : Int) := by omega
      rw [if_neg e]; simp [back, e']
  · exact (((hbel.setCell (Nat.le_refl _) _).setCell (by simp) _).alloc (by have := hbel.size; simpa using this) o).drew

theorem lam_neg (H S : Nat → Int) (k : Nat) (hn : Nat) (v : Int) (ehn : H k = hn) (hv : back H (lam H S) k hn = v) (hs : S k < 0) : lam H S k = v + 1 := by
  rw [lam_eq H S k (by omega), ehn, hv]; unfold pick; rw [if_neg (by omega)]
theorem lam_hi (H S : Nat → Int) (k : Nat) (hn sn : Nat) (v x : Int) (ehn : H k = hn) (hv : back H (lam H S) k hn = v) (esn : S k = sn) (hsn : sn < k) (hx : lam H S sn = x) (h : v ≤ x) : lam H S k = x + 1 := by
  rw [lam_eq H S k (by omega), ehn, hv, esn, Int.toNat_natCast, hx]; unfold pick; split <;> omega
theorem lam_lo (H S : Nat → Int) (k : Nat) (hn sn : Nat) (v x : Int) (ehn : H k = hn) (hv : back H (lam H S) k hn = v) (esn : S k = sn) (hsn : sn < k) (hx : lam H S sn = x) (h : x ≤ v) : lam H S k = v + 1 := by
  rw [lam_eq H S k (by omega), ehn, hv, esn, Int.toNat_natCast, hx]; unfold pick; split <;> omega

structure Hist (w : World) (hb ho eo n len : Nat) (H S : Nat → Int) : Prop where
  c0 : w.cell? ⟨hb, 0, none⟩ = some (.slice (some ⟨ho, 0, none⟩) n n)
  c1 : w.cell? ⟨hb, 1, none⟩ = some (.slice (some ⟨eo, 0, none⟩) len len)
  row : w.rowIs eo 39 (len * 4) (evf H S len)
  hlt : hb < w.heap.size
structure Good (n len : Nat) (H S : Nat → Int) : Prop where
  n1 : n ≤ 4
  l1 : len ≤ 1024
  host : ∀ i, i < len → 0 ≤ H i ∧ H i < (n : Int)
  send : ∀ i, i < len → -1 ≤ S i ∧ S i < (i : Int)

set_option maxRecDepth 100000 in
set_option maxHeartbeats 1000000 in
theorem replay_any (w : World) (hb ho eo n len : Nat) (H S : Nat → Int) (hh : Hist w hb ho eo n len H S) (hgood : Good n len H S) :
    Calls Yba.prog 10 #[.pointer (some ⟨hb, 0, none⟩)] w fun e w' => ∃ lb, e = .returned (.iface 29 (.slice (some ⟨lb, 0, none⟩) len len)) ∧ Below w.heap.size w w' ∧ w'.rowIs lb 35 len (stf (lam H S) len) ∧ w.heap.size ≤ lb := by
  obtain ⟨c0, c1, row, hlt⟩ := hh
  obtain ⟨n1, l1, host, send⟩ := hgood
  have mk29 := run_make_row' (P := Yba.prog) 29 35 (.int .u64 0) 8 Yba.underlying29 info35 rfl .i64 .i64 len (by omega) (by omega)
  have mk28 := run_make_row' (P := Yba.prog) 28 35 (.int .u64 0) 8 Yba.underlying28 info35 rfl .i64 .i64 n (by omega) (by omega)
  have Hhost := hide' host
  have Hsend := hide' send
  have Hrow := hide' row
  clear host send row
  go_enter Yba.func10, Yba.ntmps10
  go_wp2
  go_loopw [25] (fun i wr => ∃ k : Nat, k ≤ len ∧ i = .int .i64 k ∧ wr.rowIs w.heap.size 35 len (stf (lam H S) k) ∧ wr.rowIs (w.heap.size + 1) 35 n (fun h => .int .u64 (back H (lam H S) k (h : Int))) ∧ Below w.heap.size w wr) (fun i _ => len - (intOf i).toNat)
  case atStart =>
    refine ⟨0, by omega, rfl, ?_, ?_, ?_⟩
    · exact ((World.rowIs_made w (.int .u64 0) len 35).alloc _).congr (fun i _ => by simp [stf])
    · have h := World.rowIs_made (w.alloc (.cells (madeCells #[.int .u64 0] len) 35)) (.int .u64 0) n 35
      simp only [World.size_alloc] at h
      exact h.congr (fun i _ => by simp [back])
    · exact ((Below.refl _ _).alloc (Nat.le_refl _) _).alloc (by simp) _
  case round =>
    obtain ⟨k, hk, rfl, r1, r2, hbel⟩ := hrel
    have rowr := (unhide' Hrow).of_block (hbel.block eo (unhide' Hrow).lt)
    have hz : w.heap.size + 1 < wr.heap.size := r2.lt
    have hz0 : w.heap.size < wr.heap.size := r1.lt
    clear mk29 mk28 c0 c1
    by_cases hkl : (k : Int) < (len : Int)
    · obtain ⟨hh0, hh1⟩ := (unhide' Hhost) k (by omega)
      obtain ⟨hs0, hs1⟩ := (unhide' Hsend) k (by omega)
      obtain ⟨hn, ehn⟩ := Int.eq_ofNat_of_zero_le hh0
      have hhn : hn < n := by omega
      have e0 : wr.cell? ⟨eo, k * 4, none⟩ = some (.int .i64 hn) := by rw [rowr.cell (by omega), evf_0 _ _ _ _ (by omega), ehn]
      have e1 : wr.cell? ⟨eo, k * 4 + 1, none⟩ = some (.slice none 0 0) := by rw [rowr.cell (by omega), evf_1]
      have e3 : wr.cell? ⟨eo, k * 4 + 3, none⟩ = some (.int .i64 0) := by rw [rowr.cell (by omega), evf_3]
      have heo : eo < wr.heap.size := rowr.lt
      have hl := r2.cell (i := hn) hhn
      have hlf := r2.frozen hn
      have hw : wr.cell? ⟨w.heap.size, k, none⟩ = some (.int .u64 0) := by rw [r1.cell (by omega)]; simp [stf]
      have hwf := r1.frozen k
      have bb := back_bounds H S len (fun i hi => ((unhide' Hsend) i hi).2) k hk (hn : Int)
      generalize hv : back H (lam H S) k (hn : Int) = v at *
      have Hv := hide' hv
      by_cases hs : 0 ≤ S k
      · obtain ⟨sn, esn⟩ := Int.eq_ofNat_of_zero_le hs
        have hsn : sn < k := by omega
        have e2 : wr.cell? ⟨eo, k * 4 + 2, none⟩ = some (.int .i64 sn) := by rw [rowr.cell (by omega), evf_2 _ _ _ _ (by omega), esn]
        have hx : wr.cell? ⟨w.heap.size, sn, none⟩ = some (.int .u64 (lam H S sn)) := by rw [r1.cell (by omega)]; simp [stf, hsn]
        have xb := lam_bounds H S len (fun i hi => ((unhide' Hsend) i hi).2) sn (by omega)
        have Hr1 := hide' r1
        have Hr2 := hide' r2
        have Hrr := hide' rowr
        have Hehn := hide' ehn
        have Hesn := hide' esn
        obtain ⟨bb0, bb1⟩ := bb
        obtain ⟨xb0, xb1⟩ := xb
        clear r1 r2 rowr ehn hv esn hs hs0 hs1
        generalize hxx : lam H S sn = x at *
        have Hx := hide' hxx
        clear hxx
        go_wp2
        all_goals go_region
        all_goals go_wp2
        all_goals go_roundw
        case rel =>
          have R := rel_step (.cells #[.int .i64 hn, .slice none 0 0, .int .i64 sn, .int .i64 0] 39) (unhide' Hr1) (unhide' Hr2) hbel (unhide' Hehn) (lam_hi H S k hn sn v x (unhide' Hehn) (unhide' Hv) (unhide' Hesn) hsn (unhide' Hx) (by omega))
          exact ⟨k + 1, by omega, by go_num, R.1, R.2.1, R.2.2⟩
        case measure => simp [intOf]; omega
        case rel =>
          have R := rel_step (.cells #[.int .i64 hn, .slice none 0 0, .int .i64 sn, .int .i64 0] 39) (unhide' Hr1) (unhide' Hr2) hbel (unhide' Hehn) (lam_lo H S k hn sn v x (unhide' Hehn) (unhide' Hv) (unhide' Hesn) hsn (unhide' Hx) (by omega))
          exact ⟨k + 1, by omega, by go_num, R.1, R.2.1, R.2.2⟩
        case measure => simp [intOf]; omega
      · have e2 : wr.cell? ⟨eo, k * 4 + 2, none⟩ = some (.int .i64 (S k)) := by rw [rowr.cell (by omega), evf_2 _ _ _ _ (by omega)]
        have Hr1 := hide' r1
        have Hr2 := hide' r2
        have Hrr := hide' rowr
        have Hehn := hide' ehn
        obtain ⟨bb0, bb1⟩ := bb
        clear r1 r2 rowr ehn hv
        go_wp2
        go_region
        go_wp2
        go_roundw
        case rel =>
          have R := rel_step (.cells #[.int .i64 hn, .slice none 0 0, .int .i64 (S k), .int .i64 0] 39) (unhide' Hr1) (unhide' Hr2) hbel (unhide' Hehn) (lam_neg H S k hn v (unhide' Hehn) (unhide' Hv) hs)
          exact ⟨k + 1, by omega, by go_num, R.1, R.2.1, R.2.2⟩
        case measure => simp [intOf]; omega
    · have hkk : k = len := by omega
      subst hkk
      have Hr1 := hide' r1
      clear r1 r2 rowr
      go_wp2
      go_ret
      exact ⟨w.heap.size, rfl, hbel, unhide' Hr1, Nat.le_refl _⟩
end Go.Proofs.Ybulkaomc
