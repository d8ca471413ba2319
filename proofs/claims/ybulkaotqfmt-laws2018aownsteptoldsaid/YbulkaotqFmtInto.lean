/-
  'mulInto' (44) at two matrices of two rows and columns, whole numbers in them.
-/
import Derived.Test.YbulkaotqFmtMul
namespace Go.Proofs.YbulkaotqFmt.Wk
open Go.RowKit Fl
theorem store_fl1 (P : Program) (w : World) (a : Addr) (m : Mode) (k : FloatKind) (v : Nat) : (store a (.float k v) m).run P w = stored P w a (.float k v) m := run_store P w a _ m rfl
attribute [local go_sem] store_fl1

def psum (u v : Nat → Int) : Nat → Int
  | 0 => 0
  | k + 1 => psum u v k + u k * v k
theorem psum_bd (u v : Nat → Int) (A B : Nat) (hu : ∀ k, k < 2 → Bd (u k) A) (hv : ∀ k, k < 2 → Bd (v k) B) : ∀ k, k ≤ 2 → Bd (psum u v k) (k * (A * B))
  | 0, _ => Bd.zero _
  | k + 1, h => by
    have h1 := psum_bd u v A B hu hv k (by omega)
    have h2 := h1.add ((hu k (by omega)).mul (hv k (by omega)))
    rw [Nat.add_mul, Nat.one_mul]; exact h2
theorem psum_step {u v : Nat → Int} {A B k s x y : Nat} (hu : ∀ k, k < 2 → Bd (u k) A) (hv : ∀ k, k < 2 → Bd (v k) B) (hM : 2 * (A * B) < 9007199254740992) (hk : k < 2) (hs : Rep s (psum u v k)) (hx : Rep x (u k)) (hy : Rep y (v k)) :
    ∃ p r, Ieee.double.mul x y = some p ∧ Ieee.double.add s p = some r ∧ Rep r (psum u v (k + 1)) := by
  obtain ⟨p, h1, r1⟩ := mul_rep hx hy (((hu k hk).mul (hv k hk)).small (by omega))
  have hb := (psum_bd u v A B hu hv (k + 1) (by omega)).small (by have : (k + 1) * (A * B) ≤ 2 * (A * B) := Nat.mul_le_mul_right _ (by omega); omega)
  obtain ⟨r, h2, r2⟩ := add_rep hs r1 hb
  exact ⟨p, r, h1, h2, r2⟩
theorem psum_zero {u v : Nat → Int} {k : Nat} (h : u k = 0) : psum u v (k + 1) = psum u v k := by show psum u v k + u k * v k = _; rw [h]; simp

theorem ne_word {x : Nat} {a : Int} (h : Rep x a) (hu : ¬ a = 0) : (FloatKind.f64.format.order x 0 != some .eq) = true := by
  have h1 := eq_rep h rep0
  have h2 : (a == 0) = false := by simpa using hu
  rw [h2] at h1
  show (!(Ieee.double.order x 0 == some .eq)) = true
  rw [h1]; rfl
theorem psum2 (u v : Nat → Int) : psum u v 2 = u 0 * v 0 + u 1 * v 1 := by show 0 + u 0 * v 0 + u 1 * v 1 = _; rw [Int.zero_add]
/-- What the walk is told of the two factors. -/
structure Fac (w : World) (da ba db bb : Nat) (fa fb : Nat → Nat) (za zb : Nat → Int) (A B : Nat) : Prop where
  ma : Mat w da 2 2 ba fa
  mb : Mat w db 2 2 bb fb
  ra : ∀ i, i < 4 → Rep (fa i) (za i) ∧ Bd (za i) A
  rb : ∀ i, i < 4 → Rep (fb i) (zb i) ∧ Bd (zb i) B

set_option maxRecDepth 100000 in
set_option maxHeartbeats 4000000 in
theorem into_t (w : World) (bd da ba db bb : Nat) (g0 fa fb : Nat → Nat) (za zb : Nat → Int) (A B : Nat) (F : Fac w da ba db bb fa fb za zb A B) (hd : w.rowIs bd 26 4 (fv g0)) (n1 : bd ≠ ba) (n2 : bd ≠ bb) (hM : 2 * (A * B) < 9007199254740992) :
    Calls Ybaf.prog 44 #[.slice (some ⟨bd, 0, none⟩) 4 4, .int .i64 1, .int .i64 2, .pointer (some ⟨da, 0, none⟩), .pointer (some ⟨db, 0, none⟩), .bool false] w fun e w' => e = .returned (.tuple #[]) ∧ Fr [bd] w w' ∧ w'.heap.size = w.heap.size ∧
      ∃ g, w'.rowIs bd 26 4 (fv g) ∧ Rep (g 0) (za 0 * zb 0 + za 1 * zb 2) ∧ Rep (g 1) (za 2 * zb 0 + za 3 * zb 2) ∧ Rep (g 2) (za 0 * zb 1 + za 1 * zb 3) ∧ Rep (g 3) (za 2 * zb 1 + za 3 * zb 3) := by
  have a0 := F.ma.c0
  have a1 := F.ma.c1
  have a2 := F.ma.c2
  have b0 := F.mb.c0
  have b1 := F.mb.c1
  have b2 := F.mb.c2
  simp only [Nat.reduceMul] at a2 b2
  have HF := hide F
  have Hd := hide hd
  have hda : bd ≠ da := fun e => row_ne hd F.ma.head (by decide) e
  have hdb : bd ≠ db := fun e => row_ne hd F.mb.head (by decide) e
  have hda' : da ≠ bd := Ne.symm hda
  have hdb' : db ≠ bd := Ne.symm hdb
  have hw0 : IntKind.i64.wrap 0 = 0 := by decide
  have hw1 : IntKind.i64.wrap 1 = 1 := by decide
  have hw2 : IntKind.i64.wrap 2 = 2 := by decide
  have hw3 : IntKind.i64.wrap 3 = 3 := by decide
  have e0 := hd.cell (i := 0) (by omega)
  have e1 := hd.cell (i := 1) (by omega)
  have e2 := hd.cell (i := 2) (by omega)
  have e3 := hd.cell (i := 3) (by omega)
  have f0 := hd.frozen 0
  have f1 := hd.frozen 1
  have f2 := hd.frozen 2
  have f3 := hd.frozen 3
  unfold fv at e0 e1 e2 e3
  clear F hd
  go_enter Ybaf.func44, Ybaf.ntmps44
  go_wp2
  go_quiet (fail)
  go_wp2
  refine wp_loop_rounds 3 ?_
  rw [rounds_succ]
  go_wp2
  refine wp_loop_rounds 1 ?_
  rw [rounds_succ]
  go_wp2
  go_loop [27, 28, 208] (fun s0 s1 i => ∃ k : Nat, k ≤ 2 ∧ i = .int .i64 k ∧ ∃ y0 y1, s0 = .float .f64 y0 ∧ s1 = .float .f64 y1 ∧ Rep y0 (psum (fun t => za (0 + t)) (fun t => zb (t * 2)) k) ∧ Rep y1 (psum (fun t => za (0 + t)) (fun t => zb (t * 2 + 1)) k)) (fun _ _ i => 2 - (intOf i).toNat)
  case atStart => exact ⟨0, by omega, rfl, 0, 0, rfl, rfl, rep0, rep0⟩
  case round =>
    obtain ⟨k, hk, rfl, r0, r1, rfl, rfl, R0, R1⟩ := hrel
    have hk2 : k = 0 ∨ k = 1 ∨ k = 2 := by omega
    rcases hk2 with rfl | rfl | rfl
    · have cx : (w.drewN nq).cell? ⟨ba, 0, none⟩ = some (.float .f64 (fa 0)) := (unhide HF).ma.data.cell (i := 0) (by omega)
      have cy : (w.drewN nq).cell? ⟨bb, 0, none⟩ = some (.float .f64 (fb 0)) := (unhide HF).mb.data.cell (i := 0) (by omega)
      have cz : (w.drewN nq).cell? ⟨bb, 1, none⟩ = some (.float .f64 (fb 1)) := (unhide HF).mb.data.cell (i := 1) (by omega)
      have ux := (unhide HF).ra 0 (by omega)
      by_cases hu : za 0 = 0
      · have hx0 : FloatKind.f64.format.order (fa 0) 0 = some .eq := by have h := cmp_rep ux.1 rep0; rw [hu] at h; exact h
        have HR0 := hide R0
        have HR1 := hide R1
        have Hu := hide hu
        clear R0 R1 ux hu
        go_wp2
        go_round
        case rel => exact ⟨1, by omega, by go_num, r0, r1, rfl, rfl, by rw [psum_zero (u := fun t => za (0 + t)) (unhide Hu)]; exact unhide HR0, by rw [psum_zero (u := fun t => za (0 + t)) (unhide Hu)]; exact unhide HR1⟩
        case measure => simp [intOf]
      · have hx0 : (FloatKind.f64.format.order (fa 0) 0 != some .eq) = true := ne_word ux.1 hu
        obtain ⟨p0, t0, m0, d0, R0'⟩ := psum_step (u := fun t => za (0 + t)) (v := fun t => zb (t * 2)) (k := 0) (fun t ht => ((unhide HF).ra (0 + t) (by omega)).2) (fun t ht => ((unhide HF).rb (t * 2) (by omega)).2) hM (by omega) R0 ux.1 ((unhide HF).rb 0 (by omega)).1
        obtain ⟨p1, t1, m1, d1, R1'⟩ := psum_step (u := fun t => za (0 + t)) (v := fun t => zb (t * 2 + 1)) (k := 0) (fun t ht => ((unhide HF).ra (0 + t) (by omega)).2) (fun t ht => ((unhide HF).rb (t * 2 + 1) (by omega)).2) hM (by omega) R1 ux.1 ((unhide HF).rb 1 (by omega)).1
        have HR0 := hide R0'
        have HR1 := hide R1'
        have Hm0 := hide m0
        have Hd0 := hide d0
        have Hm1 := hide m1
        have Hd1 := hide d1
        clear R0 R1 ux hu R0' R1' m0 d0 m1 d1
        go_wp2_with fail
        refine (addProduct_any _ _ _ p0 t0 (unhide Hm0) (unhide Hd0) _).mono ?_
        rintro e w' ⟨rfl, rfl⟩
        go_wp2_with fail
        refine (addProduct_any _ _ _ p1 t1 (unhide Hm1) (unhide Hd1) _).mono ?_
        rintro e w' ⟨rfl, rfl⟩
        go_wp2
        go_round
        case rel => exact ⟨1, by omega, by go_num, t0, t1, rfl, rfl, unhide HR0, unhide HR1⟩
        case measure => simp [intOf]
    · have cx : (w.drewN nq).cell? ⟨ba, 1, none⟩ = some (.float .f64 (fa 1)) := (unhide HF).ma.data.cell (i := 1) (by omega)
      have cy : (w.drewN nq).cell? ⟨bb, 2, none⟩ = some (.float .f64 (fb 2)) := (unhide HF).mb.data.cell (i := 2) (by omega)
      have cz : (w.drewN nq).cell? ⟨bb, 3, none⟩ = some (.float .f64 (fb 3)) := (unhide HF).mb.data.cell (i := 3) (by omega)
      have ux := (unhide HF).ra 1 (by omega)
      by_cases hu : za 1 = 0
      · have hx0 : FloatKind.f64.format.order (fa 1) 0 = some .eq := by have h := cmp_rep ux.1 rep0; rw [hu] at h; exact h
        have HR0 := hide R0
        have HR1 := hide R1
        have Hu := hide hu
        clear R0 R1 ux hu
        go_wp2
        go_round
        case rel => exact ⟨2, by omega, by go_num, r0, r1, rfl, rfl, by rw [psum_zero (u := fun t => za (0 + t)) (unhide Hu)]; exact unhide HR0, by rw [psum_zero (u := fun t => za (0 + t)) (unhide Hu)]; exact unhide HR1⟩
        case measure => simp [intOf]
      · have hx0 : (FloatKind.f64.format.order (fa 1) 0 != some .eq) = true := ne_word ux.1 hu
        obtain ⟨p0, t0, m0, d0, R0'⟩ := psum_step (u := fun t => za (0 + t)) (v := fun t => zb (t * 2)) (k := 1) (fun t ht => ((unhide HF).ra (0 + t) (by omega)).2) (fun t ht => ((unhide HF).rb (t * 2) (by omega)).2) hM (by omega) R0 ux.1 ((unhide HF).rb 2 (by omega)).1
        obtain ⟨p1, t1, m1, d1, R1'⟩ := psum_step (u := fun t => za (0 + t)) (v := fun t => zb (t * 2 + 1)) (k := 1) (fun t ht => ((unhide HF).ra (0 + t) (by omega)).2) (fun t ht => ((unhide HF).rb (t * 2 + 1) (by omega)).2) hM (by omega) R1 ux.1 ((unhide HF).rb 3 (by omega)).1
        have HR0 := hide R0'
        have HR1 := hide R1'
        have Hm0 := hide m0
        have Hd0 := hide d0
        have Hm1 := hide m1
        have Hd1 := hide d1
        clear R0 R1 ux hu R0' R1' m0 d0 m1 d1
        go_wp2_with fail
        refine (addProduct_any _ _ _ p0 t0 (unhide Hm0) (unhide Hd0) _).mono ?_
        rintro e w' ⟨rfl, rfl⟩
        go_wp2_with fail
        refine (addProduct_any _ _ _ p1 t1 (unhide Hm1) (unhide Hd1) _).mono ?_
        rintro e w' ⟨rfl, rfl⟩
        go_wp2
        go_round
        case rel => exact ⟨2, by omega, by go_num, t0, t1, rfl, rfl, unhide HR0, unhide HR1⟩
        case measure => simp [intOf]
    · have HQ0 := hide R0
      have HQ1 := hide R1
      clear R0 R1
      go_wp2
      rw [rounds_succ]
      go_wp2
      refine wp_loop_rounds 1 ?_
      rw [rounds_succ]
      go_wp2
      go_loop [27, 28, 208] (fun s0 s1 i => ∃ k : Nat, k ≤ 2 ∧ i = .int .i64 k ∧ ∃ y0 y1, s0 = .float .f64 y0 ∧ s1 = .float .f64 y1 ∧ Rep y0 (psum (fun t => za (2 + t)) (fun t => zb (t * 2)) k) ∧ Rep y1 (psum (fun t => za (2 + t)) (fun t => zb (t * 2 + 1)) k)) (fun _ _ i => 2 - (intOf i).toNat)
      case atStart => exact ⟨0, by omega, rfl, 0, 0, rfl, rfl, rep0, rep0⟩
      case round =>
        obtain ⟨k, hk, rfl, r2, r3, rfl, rfl, R0, R1⟩ := hrel
        have hk2 : k = 0 ∨ k = 1 ∨ k = 2 := by omega
        rcases hk2 with rfl | rfl | rfl
        · have cx : (((w.drewN nq).setCell ⟨bd, 0, none⟩ (.float .f64 r0)).setCell ⟨bd, 2, none⟩ (.float .f64 r1)).cell? ⟨ba, 2, none⟩ = some (.float .f64 (fa 2)) := (World.cell?_setCell_other _ _ _ _ (by intro e; exact n1 (congrArg Addr.block e))).trans ((World.cell?_setCell_other _ _ _ _ (by intro e; exact n1 (congrArg Addr.block e))).trans ((unhide HF).ma.data.cell (i := 2) (by omega)))
          have cy : (((w.drewN nq).setCell ⟨bd, 0, none⟩ (.float .f64 r0)).setCell ⟨bd, 2, none⟩ (.float .f64 r1)).cell? ⟨bb, 0, none⟩ = some (.float .f64 (fb 0)) := (World.cell?_setCell_other _ _ _ _ (by intro e; exact n2 (congrArg Addr.block e))).trans ((World.cell?_setCell_other _ _ _ _ (by intro e; exact n2 (congrArg Addr.block e))).trans ((unhide HF).mb.data.cell (i := 0) (by omega)))
          have cz : (((w.drewN nq).setCell ⟨bd, 0, none⟩ (.float .f64 r0)).setCell ⟨bd, 2, none⟩ (.float .f64 r1)).cell? ⟨bb, 1, none⟩ = some (.float .f64 (fb 1)) := (World.cell?_setCell_other _ _ _ _ (by intro e; exact n2 (congrArg Addr.block e))).trans ((World.cell?_setCell_other _ _ _ _ (by intro e; exact n2 (congrArg Addr.block e))).trans ((unhide HF).mb.data.cell (i := 1) (by omega)))
          have ux := (unhide HF).ra 2 (by omega)
          by_cases hu : za 2 = 0
          · have hx0 : FloatKind.f64.format.order (fa 2) 0 = some .eq := by have h := cmp_rep ux.1 rep0; rw [hu] at h; exact h
            have HR0 := hide R0
            have HR1 := hide R1
            have Hu := hide hu
            clear R0 R1 ux hu
            go_wp2
            go_round
            case rel => exact ⟨1, by omega, by go_num, r2, r3, rfl, rfl, by rw [psum_zero (u := fun t => za (2 + t)) (unhide Hu)]; exact unhide HR0, by rw [psum_zero (u := fun t => za (2 + t)) (unhide Hu)]; exact unhide HR1⟩
            case measure => simp [intOf]
          · have hx0 : (FloatKind.f64.format.order (fa 2) 0 != some .eq) = true := ne_word ux.1 hu
            obtain ⟨p0, t0, m0, d0, R0'⟩ := psum_step (u := fun t => za (2 + t)) (v := fun t => zb (t * 2)) (k := 0) (fun t ht => ((unhide HF).ra (2 + t) (by omega)).2) (fun t ht => ((unhide HF).rb (t * 2) (by omega)).2) hM (by omega) R0 ux.1 ((unhide HF).rb 0 (by omega)).1
            obtain ⟨p1, t1, m1, d1, R1'⟩ := psum_step (u := fun t => za (2 + t)) (v := fun t => zb (t * 2 + 1)) (k := 0) (fun t ht => ((unhide HF).ra (2 + t) (by omega)).2) (fun t ht => ((unhide HF).rb (t * 2 + 1) (by omega)).2) hM (by omega) R1 ux.1 ((unhide HF).rb 1 (by omega)).1
            have HR0 := hide R0'
            have HR1 := hide R1'
            have Hm0 := hide m0
            have Hd0 := hide d0
            have Hm1 := hide m1
            have Hd1 := hide d1
            clear R0 R1 ux hu R0' R1' m0 d0 m1 d1
            go_wp2_with fail
            refine (addProduct_any _ _ _ p0 t0 (unhide Hm0) (unhide Hd0) _).mono ?_
            rintro e w' ⟨rfl, rfl⟩
            go_wp2_with fail
            refine (addProduct_any _ _ _ p1 t1 (unhide Hm1) (unhide Hd1) _).mono ?_
            rintro e w' ⟨rfl, rfl⟩
            go_wp2
            go_round
            case rel => exact ⟨1, by omega, by go_num, t0, t1, rfl, rfl, unhide HR0, unhide HR1⟩
            case measure => simp [intOf]
        · have cx : (((w.drewN nq).setCell ⟨bd, 0, none⟩ (.float .f64 r0)).setCell ⟨bd, 2, none⟩ (.float .f64 r1)).cell? ⟨ba, 3, none⟩ = some (.float .f64 (fa 3)) := (World.cell?_setCell_other _ _ _ _ (by intro e; exact n1 (congrArg Addr.block e))).trans ((World.cell?_setCell_other _ _ _ _ (by intro e; exact n1 (congrArg Addr.block e))).trans ((unhide HF).ma.data.cell (i := 3) (by omega)))
          have cy : (((w.drewN nq).setCell ⟨bd, 0, none⟩ (.float .f64 r0)).setCell ⟨bd, 2, none⟩ (.float .f64 r1)).cell? ⟨bb, 2, none⟩ = some (.float .f64 (fb 2)) := (World.cell?_setCell_other _ _ _ _ (by intro e; exact n2 (congrArg Addr.block e))).trans ((World.cell?_setCell_other _ _ _ _ (by intro e; exact n2 (congrArg Addr.block e))).trans ((unhide HF).mb.data.cell (i := 2) (by omega)))
          have cz : (((w.drewN nq).setCell ⟨bd, 0, none⟩ (.float .f64 r0)).setCell ⟨bd, 2, none⟩ (.float .f64 r1)).cell? ⟨bb, 3, none⟩ = some (.float .f64 (fb 3)) := (World.cell?_setCell_other _ _ _ _ (by intro e; exact n2 (congrArg Addr.block e))).trans ((World.cell?_setCell_other _ _ _ _ (by intro e; exact n2 (congrArg Addr.block e))).trans ((unhide HF).mb.data.cell (i := 3) (by omega)))
          have ux := (unhide HF).ra 3 (by omega)
          by_cases hu : za 3 = 0
          · have hx0 : FloatKind.f64.format.order (fa 3) 0 = some .eq := by have h := cmp_rep ux.1 rep0; rw [hu] at h; exact h
            have HR0 := hide R0
            have HR1 := hide R1
            have Hu := hide hu
            clear R0 R1 ux hu
            go_wp2
            go_round
            case rel => exact ⟨2, by omega, by go_num, r2, r3, rfl, rfl, by rw [psum_zero (u := fun t => za (2 + t)) (unhide Hu)]; exact unhide HR0, by rw [psum_zero (u := fun t => za (2 + t)) (unhide Hu)]; exact unhide HR1⟩
            case measure => simp [intOf]
          · have hx0 : (FloatKind.f64.format.order (fa 3) 0 != some .eq) = true := ne_word ux.1 hu
            obtain ⟨p0, t0, m0, d0, R0'⟩ := psum_step (u := fun t => za (2 + t)) (v := fun t => zb (t * 2)) (k := 1) (fun t ht => ((unhide HF).ra (2 + t) (by omega)).2) (fun t ht => ((unhide HF).rb (t * 2) (by omega)).2) hM (by omega) R0 ux.1 ((unhide HF).rb 2 (by omega)).1
            obtain ⟨p1, t1, m1, d1, R1'⟩ := psum_step (u := fun t => za (2 + t)) (v := fun t => zb (t * 2 + 1)) (k := 1) (fun t ht => ((unhide HF).ra (2 + t) (by omega)).2) (fun t ht => ((unhide HF).rb (t * 2 + 1) (by omega)).2) hM (by omega) R1 ux.1 ((unhide HF).rb 3 (by omega)).1
            have HR0 := hide R0'
            have HR1 := hide R1'
            have Hm0 := hide m0
            have Hd0 := hide d0
            have Hm1 := hide m1
            have Hd1 := hide d1
            clear R0 R1 ux hu R0' R1' m0 d0 m1 d1
            go_wp2_with fail
            refine (addProduct_any _ _ _ p0 t0 (unhide Hm0) (unhide Hd0) _).mono ?_
            rintro e w' ⟨rfl, rfl⟩
            go_wp2_with fail
            refine (addProduct_any _ _ _ p1 t1 (unhide Hm1) (unhide Hd1) _).mono ?_
            rintro e w' ⟨rfl, rfl⟩
            go_wp2
            go_round
            case rel => exact ⟨2, by omega, by go_num, t0, t1, rfl, rfl, unhide HR0, unhide HR1⟩
            case measure => simp [intOf]
        · have HQ2 := hide R0
          have HQ3 := hide R1
          clear R0 R1
          go_wp2
          rw [rounds_succ]
          go_wp2
          go_end0
          refine ⟨rfl, (((((Fr.refl [bd] w).drewN _).setCell (.inl (by simp)) _).setCell (.inl (by simp)) _).setCell (.inl (by simp)) _).setCell (.inl (by simp)) _, by simp, _, fset (fset (fset (fset (rowIs_drewN (unhide Hd) _) 0 r0) 2 r1) 1 r2) 3 r3, ?_, ?_, ?_, ?_⟩
          · rw [upd_other _ _ _ _ (by omega), upd_other _ _ _ _ (by omega), upd_other _ _ _ _ (by omega), upd_same]; have h := unhide HQ0; rw [psum2] at h; exact h
          · rw [upd_other _ _ _ _ (by omega), upd_same]; have h := unhide HQ2; rw [psum2] at h; exact h
          · rw [upd_other _ _ _ _ (by omega), upd_other _ _ _ _ (by omega), upd_same]; have h := unhide HQ1; rw [psum2] at h; exact h
          · rw [upd_same]; have h := unhide HQ3; rw [psum2] at h; exact h
end Go.Proofs.YbulkaotqFmt.Wk
