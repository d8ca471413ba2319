/-
  A SLICE OF STEPS THAT CAME IN, OPENED: 'IsSteps'.
-/
import Derived.Test.YbulkaomcBuildWalk
import Derived.ProofKit
import Derived.OpenShut
import Derived.Deep.Slices
import Derived.Deep.Strs
namespace Go.Proofs.Ybulkaomc
open Go.ChangeShapes Go.WideShapes Go.ChangeAt Go.RowKit Go.Deep

theorem cells63 : Yba.prog.cellsOf 63 = 3 := by kernel_rfl
theorem cells5 : Yba.prog.cellsOf 5 = 1 := by kernel_rfl
theorem cells4 : Yba.prog.cellsOf 4 = 1 := by kernel_rfl

theorem lt_of_cell {w : World} {a : Addr} {v : Value} (h : w.cell? a = some v) : a.block < w.heap.size := by
  unfold World.cell? at h
  cases hb : w.heap[a.block]? with
  | none => rw [hb] at h; cases h
  | some o => exact (Array.getElem?_eq_some_iff.1 hb).1

set_option maxRecDepth 100000 in
/-- What one step's three cells are. -/
theorem open_step {H : Type} {enc : TypeId × Value → H} {w : World} {spare : Nat → Bool} {held : Bool} {fuel : Nat} {cs : List Value} {x : DataW H × List MemPlace}
    (h : DataW.trod enc Yba.prog w 0 spare held fuel 63 cs = some x) : ∃ (p : Int × Int × Bool), cs = [.int .u8 p.1, .int .u8 p.2.1, .bool p.2.2] ∧ 0 ≤ p.1 ∧ p.1 ≤ 255 ∧ 0 ≤ p.2.1 ∧ p.2.1 ≤ 255 := by
  obtain ⟨y0, y1, y2, n, _, hl, h0, h1, h2⟩ := trod_struct3 Yba.underlying63 h
  rw [cells63] at hl
  match cs, hl with
  | [c0, c1, c2], _ =>
    simp only [cells5, cells4] at h0 h1 h2
    obtain ⟨a, e0, _, w0⟩ := DataW.trod_int Yba.underlying5 h0
    obtain ⟨b, e1, _, w1⟩ := DataW.trod_int Yba.underlying5 h1
    obtain ⟨c, e2, _⟩ := DataW.trod_bool Yba.underlying4 h2
    simp at e0 e1 e2
    subst e0 e1 e2
    have b0 := bounds_u8 w0
    have b1 := bounds_u8 w1
    exact ⟨(a, b, c), rfl, b0.1, b0.2, b1.1, b1.2⟩

set_option maxRecDepth 100000 in
theorem open_steps {H : Type} {enc : TypeId × Value → H} {w : World} {spare : Nat → Bool} {held : Bool} {a : Option Addr} {len cap : Nat} {x : DataW H × List MemPlace}
    (h : ∃ fuel, DataW.trod enc Yba.prog w 0 spare held fuel 22 [.slice a len cap] = some x) : ∃ hs ss rs, IsSteps w a len hs ss rs := by
  obtain ⟨fuel, hf⟩ := h
  rcases open_slice Yba.underlying22 hf with ⟨hcs, _⟩ | ⟨ad, len', cap', m, n, D, Pl, hcs, _, hl, _, hm, _, hx⟩
  · simp at hcs
    obtain ⟨rfl, rfl, rfl⟩ := hcs
    exact ⟨fun _ => 0, fun _ => 0, fun _ => false, fun i hi => absurd hi (Nat.not_lt_zero _)⟩
  · simp at hcs
    obtain ⟨rfl, rfl, rfl⟩ := hcs
    have hlm : len ≤ m := by rw [hm]; split <;> omega
    obtain ⟨b, off, spot⟩ := ad
    have each : ∀ i, i < len → ∃ p : Int × Int × Bool, spot = none ∧ b < w.heap.size ∧ w.cell? ⟨b, off + i * 3, none⟩ = some (.int .u8 p.1) ∧ w.cell? ⟨b, off + i * 3 + 1, none⟩ = some (.int .u8 p.2.1) ∧ w.cell? ⟨b, off + i * 3 + 2, none⟩ = some (.bool p.2.2) ∧
        0 ≤ p.1 ∧ p.1 ≤ 255 ∧ 0 ≤ p.2.1 ∧ p.2.1 ≤ 255 := by
      have spot0 : 0 < len → spot = none := by
        intro h0
        obtain ⟨cs', g1, g2⟩ := hx 0 (by omega)
        obtain ⟨p, rfl, _⟩ := open_step g2
        rw [cells63] at g1
        obtain ⟨_, _, hc⟩ := World.cells?_some g1
        have := hc 0 (by omega)
        simp [Addr.add] at this
        simpa using World.cell?_spot this
      intro i hi
      have hsp := spot0 (by omega)
      subst hsp
      obtain ⟨cs', g1, g2⟩ := hx i (by omega)
      obtain ⟨p, rfl, b0, b1, b2, b3⟩ := open_step g2
      rw [cells63, add_plain] at g1
      obtain ⟨_, _, hc⟩ := World.cells?_some g1
      have e0 := hc 0 (by omega)
      have e1 := hc 1 (by omega)
      have e2 := hc 2 (by omega)
      rw [add_plain] at e0 e1 e2
      simp at e0 e1 e2
      exact ⟨p, rfl, lt_of_cell e0, e0, e1, e2, b0, b1, b2, b3⟩
    obtain ⟨q, hq⟩ := choose_lt (α := Int × Int × Bool) each
    refine ⟨fun i => (q i).1, fun i => (q i).2.1, fun i => (q i).2.2, fun i hi => ?_⟩
    obtain ⟨hsp, hb, r⟩ := hq i hi
    subst hsp
    exact ⟨b, off, rfl, hb, r⟩
end Go.Proofs.Ybulkaomc
