/-
  'Record' (6) and 'recording.add' (24).
-/
import Derived.Test.YbulkaotqFmtFilt
namespace Go.Proofs.YbulkaotqFmt.Wk
open Go.RowKit Fl

/-- A recording's six cells. -/
def rv (n k : Nat) (x p t u : Value) : Nat → Value
  | 0 => .int .i64 n
  | 1 => .int .i64 k
  | 2 => x
  | 3 => p
  | 4 => t
  | 5 => u
  | _ => undef
/-- A filter's row with one cell turned. -/
def updV (F : Nat → Value) (i : Nat) (v : Value) : Nat → Value := fun j => if j = i then v else F j

def nilS : Value := .slice none 0 0
theorem rv_cells (n k : Nat) : ∀ i, i < (#[.int .i64 n, .int .i64 k, .slice none 0 0, .slice none 0 0, .slice none 0 0, .slice none 0 0] : Array Value).size → (#[.int .i64 n, .int .i64 k, .slice none 0 0, .slice none 0 0, .slice none 0 0, .slice none 0 0] : Array Value)[i]? = some (rv n k nilS nilS nilS nilS i)
  | 0, _ => rfl
  | 1, _ => rfl
  | 2, _ => rfl
  | 3, _ => rfl
  | 4, _ => rfl
  | 5, _ => rfl
  | i + 6, h => absurd h (by simp)
set_option maxRecDepth 100000 in
set_option maxHeartbeats 1000000 in
theorem record_none (w : World) (fb : Nat) (F : Nat → Value) (bx cx : Nat) (hF : w.rowIs fb 47 25 F) (h6 : F 6 = .slice (some ⟨bx, 0, none⟩) 2 cx) (h1 : F 1 = .pointer none) :
    Calls Ybaf.prog 6 #[.pointer (some ⟨fb, 0, none⟩)] w fun e w' => e = .returned .nilIface ∧ Fr [fb] w w' ∧ w'.heap.size = w.heap.size + 1 ∧ w'.rowIs fb 47 25 (updV F 8 (.pointer (some ⟨w.heap.size, 0, none⟩))) ∧ w'.rowIs w.heap.size 50 6 (rv 2 0 nilS nilS nilS nilS) := by
  have c6 := hF.cell (i := 6) (by omega)
  rw [h6] at c6
  have c1 := hF.cell (i := 1) (by omega)
  rw [h1] at c1
  have c8 := hF.cell (i := 8) (by omega)
  have f8 := hF.frozen 8
  have HF := hide hF
  have H6 := hide h6
  have hn := neq_nil35
  have hlt := hF.lt
  have hne : fb ≠ w.heap.size := by omega
  clear hF h6 h1
  go_enter Ybaf.func6, Ybaf.ntmps6
  go_wp2_with fail
  refine (built_any _ fb F bx 2 cx (unhide HF) (unhide H6)).mono ?_
  rintro e w' ⟨rfl, rfl⟩
  go_wp2
  go_ret
  refine ⟨rfl, ((Fr.refl _ _).setCell (.inl (by simp)) _).alloc _, by simp, ((unhide HF).set 8 _).alloc _, ?_⟩
  have h := World.rowIs_alloc (w.setCell ⟨fb, 8, none⟩ (.pointer (some ⟨w.heap.size, 0, none⟩))) #[.int .i64 2, .int .i64 0, .slice none 0 0, .slice none 0 0, .slice none 0 0, .slice none 0 0] 50 (rv 2 0 nilS nilS nilS nilS) (rv_cells 2 0)
  have e : (w.setCell ⟨fb, 8, none⟩ (.pointer (some ⟨w.heap.size, 0, none⟩))).heap.size = w.heap.size := by simp
  rw [e] at h
  exact h

set_option maxRecDepth 100000 in
set_option maxHeartbeats 1000000 in
theorem record_some (w : World) (fb : Nat) (F : Nat → Value) (bx cx db bb : Nat) (gb : Nat → Nat) (hF : w.rowIs fb 47 25 F) (h6 : F 6 = .slice (some ⟨bx, 0, none⟩) 2 cx) (h1 : F 1 = .pointer (some ⟨db, 0, none⟩)) (mb : Mat w db 2 1 bb gb) :
    Calls Ybaf.prog 6 #[.pointer (some ⟨fb, 0, none⟩)] w fun e w' => e = .returned .nilIface ∧ Fr [fb] w w' ∧ w'.heap.size = w.heap.size + 1 ∧ w'.rowIs fb 47 25 (updV F 8 (.pointer (some ⟨w.heap.size, 0, none⟩))) ∧ w'.rowIs w.heap.size 50 6 (rv 2 1 nilS nilS nilS nilS) := by
  have c6 := hF.cell (i := 6) (by omega)
  rw [h6] at c6
  have c1 := hF.cell (i := 1) (by omega)
  rw [h1] at c1
  have c8 := hF.cell (i := 8) (by omega)
  have f8 := hF.frozen 8
  have HF := hide hF
  have H6 := hide h6
  have Hb := hide mb
  have hn := neq_nil35
  have hlt := hF.lt
  have hne : fb ≠ w.heap.size := by omega
  have hne' := Ne.symm hne
  clear hF h6 h1 mb
  go_enter Ybaf.func6, Ybaf.ntmps6
  go_wp2_with fail
  refine (built_any _ fb F bx 2 cx (unhide HF) (unhide H6)).mono ?_
  rintro e w' ⟨rfl, rfl⟩
  go_wp2_with fail
  refine (dims_any _ db 2 1 bb gb (by exact ⟨(unhide Hb).head.alloc _, (unhide Hb).data.alloc _⟩)).mono ?_
  rintro e w' ⟨rfl, q, rfl⟩
  go_wp2
  go_ret
  have h0 := World.rowIs_alloc w #[.int .i64 2, .int .i64 0, .slice none 0 0, .slice none 0 0, .slice none 0 0, .slice none 0 0] 50 (rv 2 0 nilS nilS nilS nilS) (rv_cells 2 0)
  refine ⟨rfl, ((((Fr.refl _ w).alloc _).drewN _).setCell (.inr (Nat.le_refl _)) _).setCell (.inl (by simp)) _, by simp, ?_, ?_⟩
  · exact (World.rowIs.setOther (w := (w.alloc _).drewN q) (rowIs_drewN ((unhide HF).alloc _) q) hne _).set 8 _
  · refine ((World.rowIs.set (w := (w.alloc _).drewN q) (rowIs_drewN h0 q) 1 (.int .i64 1)).setOther hne' _).congr ?_
    intro i hi
    match i, hi with
    | 0, _ => rfl
    | 1, _ => rfl
    | 2, _ => rfl
    | 3, _ => rfl
    | 4, _ => rfl
    | 5, _ => rfl
    | i + 6, h => exact absurd h (by simp)

end Go.Proofs.YbulkaotqFmt.Wk
