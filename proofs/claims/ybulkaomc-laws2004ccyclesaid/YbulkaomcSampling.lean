/-
  THE WALK OF '(*aim).sampling' (function 15), and the block that '&aim{..}' lays.
-/
import Derived.Test.YbulkaomcRows
import Derived.WalkKit
import Derived.WalkSpells
import Derived.WalkLawsBesides
namespace Go.Proofs.Ybulkaomc
open Go.RowKit

theorem hide {p : Prop} (h : p) : Hid p := h
theorem unhide {p : Prop} (h : Hid p) : p := h
theorem set_set (w : World) (b o : Nat) (v v' : Value) : (w.setCell ⟨b, o, none⟩ v).setCell ⟨b, o, none⟩ v' = w.setCell ⟨b, o, none⟩ v' := by
  unfold World.setCell
  congr 1
  apply Array.ext
  · simp
  · intro i h1 h2
    simp only [Array.getElem_modify]
    split
    · cases w.heap[i]'(by simpa using h1) <;> simp
    · rfl

set_option maxHeartbeats 400000 in
theorem sampling_lo (b : Nat) (d : Int) (w : World) (hc : w.cell? ⟨b, 19, none⟩ = some (.int .i64 d)) (hf : w.frozen? ⟨b, 19, none⟩ = false) (h : wrap64 (d + 1) < 8) :
    Calls Yba.prog 15 #[.pointer (some ⟨b, 0, none⟩)] w fun e w' => e = .returned (.bool false) ∧ w' = w.setCell ⟨b, 19, none⟩ (.int .i64 (wrap64 (d + 1))) := by
  go_enter Yba.func15, Yba.ntmps15
  go_wp2
  go_ret
  exact ⟨rfl, rfl⟩

set_option maxHeartbeats 400000 in
theorem sampling_hi (b : Nat) (d : Int) (w : World) (hc : w.cell? ⟨b, 19, none⟩ = some (.int .i64 d)) (hf : w.frozen? ⟨b, 19, none⟩ = false) (h : ¬ wrap64 (d + 1) < 8) :
    Calls Yba.prog 15 #[.pointer (some ⟨b, 0, none⟩)] w fun e w' => e = .returned (.bool true) ∧ w' = w.setCell ⟨b, 19, none⟩ (.int .i64 0) := by
  go_enter Yba.func15, Yba.ntmps15
  go_wp2
  go_ret
  exact ⟨rfl, set_set _ _ _ _ _⟩

/-! ### THE BLOCK THAT '&aim{deliveredSince: d, arrivedSince: arr, timed: timed}' LAYS -/
theorem aim_zero : ∃ z : Array Value, (∀ w, (zeroValue 58).run Yba.prog w = .ok (.agg z) w) ∧ z.size = 69 ∧ z[19]? = some (.int .i64 0) :=
  ⟨(((Yba.prog.info? 58).bind (·.zero)).map Value.cells).getD #[], fun w => by kernel_rfl, by kernel_rfl, by kernel_rfl⟩
end Go.Proofs.Ybulkaomc
