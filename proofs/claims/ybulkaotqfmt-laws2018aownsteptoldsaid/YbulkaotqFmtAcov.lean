/-
  The law's own covariance 'zzs2018acov' (10).
-/
import Derived.Test.YbulkaotqFmtMIn
namespace Go.Proofs.YbulkaotqFmt.Wk
open Go.RowKit Fl
theorem store_fl7 (P : Program) (w : World) (a : Addr) (m : Mode) (k : FloatKind) (v : Nat) : (store a (.float k v) m).run P w = stored P w a (.float k v) m := run_store P w a _ m rfl
attribute [local go_sem] store_fl7

/-- One entry. -/
theorem entry {a p b c q d : Nat} {za zp zb zc zq zd : Int} {A B : Nat} (ha : Rep a za ∧ Bd za A) (hp : Rep p zp ∧ Bd zp B) (hb : Rep b zb ∧ Bd zb A) (hc : Rep c zc ∧ Bd zc A) (hq : Rep q zq ∧ Bd zq B) (hd : Rep d zd ∧ Bd zd A) (hM : 2 * (A * B * A) < 9007199254740992) (hN : A * B < 9007199254740992) :
    ∃ m1 m2 m3 m4 r, Ieee.double.mul a p = some m1 ∧ Ieee.double.mul m1 b = some m2 ∧ Ieee.double.mul c q = some m3 ∧ Ieee.double.mul m3 d = some m4 ∧ Ieee.double.add m2 m4 = some r ∧ Rep r (za * zp * zb + zc * zq * zd) ∧ Bd (za * zp * zb + zc * zq * zd) (2 * (A * B * A)) := by
  have b1 := ha.2.mul hp.2
  have b2 := b1.mul hb.2
  have b3 := hc.2.mul hq.2
  have b4 := b3.mul hd.2
  have b5 := b2.add b4
  rw [← Nat.two_mul] at b5
  obtain ⟨m1, h1, r1⟩ := mul_rep ha.1 hp.1 (b1.small (by omega))
  obtain ⟨m2, h2, r2⟩ := mul_rep r1 hb.1 (b2.small (by omega))
  obtain ⟨m3, h3, r3⟩ := mul_rep hc.1 hq.1 (b3.small (by omega))
  obtain ⟨m4, h4, r4⟩ := mul_rep r3 hd.1 (b4.small (by omega))
  obtain ⟨r, h5, r5⟩ := add_rep r2 r4 (b5.small (by omega))
  exact ⟨m1, m2, m3, m4, r, h1, h2, h3, h4, h5, r5, b5⟩

def g4 (a b c d : Nat) : Nat → Nat
  | 0 => a
  | 1 => b
  | 2 => c
  | _ => d

set_option maxRecDepth 100000 in
set_option maxHeartbeats 4000000 in
theorem acov_any (w : World) (ob r0 r1 f00 f01 f10 f11 p0 p1 q0 q1 : Nat) (z00 z01 z10 z11 y0 y1 u0 u1 : Int) (A B C : Nat)
    (o0 : w.cell? ⟨ob, 0, none⟩ = some (.slice (some ⟨r0, 0, none⟩) 2 2)) (o1 : w.cell? ⟨ob, 1, none⟩ = some (.slice (some ⟨r1, 0, none⟩) 2 2))
    (c00 : w.cell? ⟨r0, 0, none⟩ = some (.float .f64 f00)) (c01 : w.cell? ⟨r0, 1, none⟩ = some (.float .f64 f01)) (c10 : w.cell? ⟨r1, 0, none⟩ = some (.float .f64 f10)) (c11 : w.cell? ⟨r1, 1, none⟩ = some (.float .f64 f11))
    (l1 : ob < w.heap.size) (l2 : r0 < w.heap.size) (l3 : r1 < w.heap.size)
    (h00 : Rep f00 z00 ∧ Bd z00 A) (h01 : Rep f01 z01 ∧ Bd z01 A) (h10 : Rep f10 z10 ∧ Bd z10 A) (h11 : Rep f11 z11 ∧ Bd z11 A) (hp0 : Rep p0 y0 ∧ Bd y0 B) (hp1 : Rep p1 y1 ∧ Bd y1 B) (hq0 : Rep q0 u0 ∧ Bd u0 C) (hq1 : Rep q1 u1 ∧ Bd u1 C)
    (hM : 2 * (A * B * A) + C < 9007199254740992) (hN : A * B < 9007199254740992) :
    Calls Ybaf.prog 10 #[.slice (some ⟨ob, 0, none⟩) 2 2, .float .f64 p0, .float .f64 p1, .float .f64 q0, .float .f64 q1] w fun e w' => e = .returned (.slice (some ⟨w.heap.size, 0, none⟩) 4 4) ∧ Fr [] w w' ∧
      ∃ g, w'.rowIs w.heap.size 26 4 (fv g) ∧ Rep (g 0) (z00 * y0 * z00 + z01 * y1 * z01 + u0) ∧ Rep (g 1) (z00 * y0 * z10 + z01 * y1 * z11) ∧ Rep (g 2) (z10 * y0 * z00 + z11 * y1 * z01) ∧ Rep (g 3) (z10 * y0 * z10 + z11 * y1 * z11 + u1) := by
  obtain ⟨a1, a2, a3, a4, s00, A1, A2, A3, A4, A5, R00, B00⟩ := entry h00 hp0 h00 h01 hp1 h01 (by omega) hN
  obtain ⟨b1, b2, b3, b4, s01, B1, B2, B3, B4, B5, R01, B01⟩ := entry h00 hp0 h10 h01 hp1 h11 (by omega) hN
  obtain ⟨c1, c2, c3, c4, s10, C1, C2, C3, C4, C5, R10, B10⟩ := entry h10 hp0 h00 h11 hp1 h01 (by omega) hN
  obtain ⟨d1, d2, d3, d4, s11, D1, D2, D3, D4, D5, R11, B11⟩ := entry h10 hp0 h10 h11 hp1 h11 (by omega) hN
  obtain ⟨t00, E1, T00⟩ := add_rep R00 hq0.1 ((B00.add hq0.2).small (by omega))
  obtain ⟨t11, E2, T11⟩ := add_rep R11 hq1.1 ((B11.add hq1.2).small (by omega))
  rw [A1] at B1
  rw [A3] at B3
  rw [C1] at D1
  rw [C3] at D3
  injection B1 with B1
  injection B3 with B3
  injection D1 with D1
  injection D3 with D3
  subst B1 B3 D1 D3
  have x1 := mul_run A1
  have x2 := mul_run A2
  have x3 := mul_run A3
  have x4 := mul_run A4
  have x5 := add_run A5
  have x6 := mul_run B2
  have x7 := mul_run B4
  have x8 := add_run B5
  have x9 := mul_run C1
  have x10 := mul_run C2
  have x11 := mul_run C3
  have x12 := mul_run C4
  have x13 := add_run C5
  have x14 := mul_run D2
  have x15 := mul_run D4
  have x16 := add_run D5
  have x17 := add_run E1
  have x18 := add_run E2
  have HR := hide (And.intro T00 (And.intro R01 (And.intro R10 T11)))
  clear A1 A2 A3 A4 A5 B2 B4 B5 C1 C2 C3 C4 C5 D2 D4 D5 E1 E2 R00 R01 R10 R11 T00 T11 B00 B01 B10 B11 h00 h01 h10 h11 hp0 hp1 hq0 hq1 hM hN
  have hmk : ∀ w, (Instr.makeSlice 27 (.int .i64 4) (.int .i64 4)).run Ybaf.prog w = .ok (.slice (some ⟨w.heap.size, 0, none⟩) 4 4) (w.alloc (.cells (madeCells #[.float .f64 0] 4) 26)) := fun w => make27 4 (by omega) w
  have hw0 : IntKind.i64.wrap 0 = 0 := by decide
  have hw1 : IntKind.i64.wrap 1 = 1 := by decide
  have hw2 : IntKind.i64.wrap 2 = 2 := by decide
  have hw3 : IntKind.i64.wrap 3 = 3 := by decide
  have m1 : ob ≠ w.heap.size := by omega
  have m2 : r0 ≠ w.heap.size := by omega
  have m3 : r1 ≠ w.heap.size := by omega
  have m1' := Ne.symm m1
  have m2' := Ne.symm m2
  have m3' := Ne.symm m3
  have Hrow := hide (World.rowIs_made w (.float .f64 0) 4 26)
  clear l1 l2 l3
  go_enter Ybaf.func10, Ybaf.ntmps10
  go_wp2
  have hfr := hide ((Fr.refl [] w).alloc (.cells (madeCells #[.float .f64 0] 4) 26))
  have o0' : (w.alloc (.cells (madeCells #[.float .f64 0] 4) 26)).cell? ⟨ob, 0, none⟩ = some (.slice (some ⟨r0, 0, none⟩) 2 2) := by rw [World.cell?_alloc_old (h := m1)]; exact o0
  have o1' : (w.alloc (.cells (madeCells #[.float .f64 0] 4) 26)).cell? ⟨ob, 1, none⟩ = some (.slice (some ⟨r1, 0, none⟩) 2 2) := by rw [World.cell?_alloc_old (h := m1)]; exact o1
  have c00' : (w.alloc (.cells (madeCells #[.float .f64 0] 4) 26)).cell? ⟨r0, 0, none⟩ = some (.float .f64 f00) := by rw [World.cell?_alloc_old (h := m2)]; exact c00
  have c01' : (w.alloc (.cells (madeCells #[.float .f64 0] 4) 26)).cell? ⟨r0, 1, none⟩ = some (.float .f64 f01) := by rw [World.cell?_alloc_old (h := m2)]; exact c01
  have c10' : (w.alloc (.cells (madeCells #[.float .f64 0] 4) 26)).cell? ⟨r1, 0, none⟩ = some (.float .f64 f10) := by rw [World.cell?_alloc_old (h := m3)]; exact c10
  have c11' : (w.alloc (.cells (madeCells #[.float .f64 0] 4) 26)).cell? ⟨r1, 1, none⟩ = some (.float .f64 f11) := by rw [World.cell?_alloc_old (h := m3)]; exact c11
  have e0 : (w.alloc (.cells (madeCells #[.float .f64 0] 4) 26)).cell? ⟨w.heap.size, 0, none⟩ = some (.float .f64 0) := (unhide Hrow).cell (i := 0) (by omega)
  have z0 := (unhide Hrow).frozen 0
  have e1 : (w.alloc (.cells (madeCells #[.float .f64 0] 4) 26)).cell? ⟨w.heap.size, 1, none⟩ = some (.float .f64 0) := (unhide Hrow).cell (i := 1) (by omega)
  have z1 := (unhide Hrow).frozen 1
  have e2 : (w.alloc (.cells (madeCells #[.float .f64 0] 4) 26)).cell? ⟨w.heap.size, 2, none⟩ = some (.float .f64 0) := (unhide Hrow).cell (i := 2) (by omega)
  have z2 := (unhide Hrow).frozen 2
  have e3 : (w.alloc (.cells (madeCells #[.float .f64 0] 4) 26)).cell? ⟨w.heap.size, 3, none⟩ = some (.float .f64 0) := (unhide Hrow).cell (i := 3) (by omega)
  have z3 := (unhide Hrow).frozen 3
  generalize (w.alloc (.cells (madeCells #[.float .f64 0] 4) 26)) = W at *
  clear o0 o1 c00 c01 c10 c11 hmk
  refine wp_loop_rounds 3 ?_
  rw [rounds_succ]
  go_wp2
  refine wp_loop_rounds 3 ?_
  rw [rounds_succ]
  go_wp2
  go_quiet (fail)
  go_wp2
  rw [rounds_succ]
  go_wp2
  go_quiet (fail)
  go_wp2
  rw [rounds_succ]
  go_wp2
  rw [rounds_succ]
  go_wp2
  refine wp_loop_rounds 3 ?_
  rw [rounds_succ]
  go_wp2
  go_quiet (fail)
  go_wp2
  rw [rounds_succ]
  go_wp2
  go_quiet (fail)
  go_wp2
  rw [rounds_succ]
  go_wp2
  rw [rounds_succ]
  go_wp2
  go_ret
  refine ⟨rfl, ?_, g4 t00 s01 s10 t11, ?_, unhide HR⟩
  · with_reducible repeat' (first | refine Fr.setCell ?_ (.inr (Nat.le_refl _)) _ | refine Fr.drewN ?_ _ | exact unhide hfr)
  · refine (World.rowIs.set (rowIs_drewN (World.rowIs.set (rowIs_drewN (World.rowIs.set (rowIs_drewN (World.rowIs.set (rowIs_drewN (unhide Hrow) _) 0 _) _) 1 _) _) 2 _) _) 3 _).congr ?_
    intro i hi
    match i, hi with
    | 0, _ => rfl
    | 1, _ => rfl
    | 2, _ => rfl
    | 3, _ => rfl
    | i + 4, h => exact absurd h (by simp)
end Go.Proofs.YbulkaotqFmt.Wk
