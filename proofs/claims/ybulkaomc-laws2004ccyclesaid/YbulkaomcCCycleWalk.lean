/-
  THE WALK OF 'LawS2004CCycle' (function 7).
-/
import Derived.Test.YbulkaomcSampling
import Derived.OpenShut
namespace Go.Proofs.Ybulkaomc
open Go.RowKit

theorem samp_lo (b : Nat) (d n : Int) (w : World) (hc : w.cell? ⟨b, 19, none⟩ = some (.int .i64 d)) (hf : w.frozen? ⟨b, 19, none⟩ = false) (hn : wrap64 (d + 1) = n) (h : n < 8) :
    Calls Yba.prog 15 #[.pointer (some ⟨b, 0, none⟩)] w fun e w' => e = .returned (.bool false) ∧ w' = w.setCell ⟨b, 19, none⟩ (.int .i64 n) := by
  subst hn
  exact sampling_lo b d w hc hf h

theorem step_lo (k : Nat) (_h1 : 1 ≤ k) (h : ((k : Int) % 8 == 0) = false) : wrap64 (((k : Int) - 1) % 8 + 1) = (k : Int) % 8 ∧ (k : Int) % 8 < 8 := by
  have h' := of_decide_eq_false h
  unfold wrap64; omega
theorem step_hi (k : Nat) (_h1 : 1 ≤ k) (h : ((k : Int) % 8 == 0) = true) : ¬ wrap64 (((k : Int) - 1) % 8 + 1) < 8 := by
  have h' := of_decide_eq_true h
  unfold wrap64; omega

set_option maxRecDepth 100000 in
set_option maxHeartbeats 1000000 in
theorem ccycle_walk (a0 : Int) (w0 : (Lit.int .u16 a0).wf = true) (w : World) :
    Calls Yba.prog 7 #[.int .u16 a0] w fun e w' => e = .returned (.bool true) ∧ Grown w w' := by
  obtain ⟨z, hz, hs, h19⟩ := aim_zero
  have hb := bounds_u16 w0
  clear w0
  obtain ⟨hb0, hb1⟩ := hb
  go_enter Yba.func7, Yba.ntmps7
  go_wp2
  go_loopw [5] (fun i wr => ∃ k : Nat, 1 ≤ k ∧ k ≤ 1025 ∧ i = .int .i64 k ∧ wr.cell? ⟨w.heap.size, 19, none⟩ = some (.int .i64 (((k : Int) - 1) % 8)) ∧ wr.frozen? ⟨w.heap.size, 19, none⟩ = false ∧ Grown w wr) (fun i _ => 2000 - (intOf i).toNat)
  case atStart => exact ⟨1, by omega, by omega, rfl, by simp [h19], by simp, (Grown.refl w).alloc _ _⟩
  case round =>
    obtain ⟨k, hk1, hk2, rfl, hc, hf, hg⟩ := hrel
    clear hz hs h19
    by_cases hle : (k : Int) ≤ a0 % 1025
    · by_cases h8 : ((k : Int) % 8 == 0) = true
      · have hstep := step_hi k hk1 h8
        go_wp2_with (go_at_call 15; refine (sampling_hi _ _ _ hc hf hstep).mono ?_; rintro e w' ⟨rfl, rfl⟩)
        go_roundw
        case rel =>
          have h8' := of_decide_eq_true h8
          exact ⟨k + 1, by omega, by omega, by go_num, by rw [show (((k + 1 : Nat) : Int) - 1) % 8 = 0 from by omega]; exact World.cell?_setCell_same _ _ _ hc, by simp [hf], hg.setCell (Nat.le_refl _) _⟩
        case measure => simp [intOf]; omega
      · have h8' : ((k : Int) % 8 == 0) = false := by simpa using h8
        clear h8
        obtain ⟨hstep, hlt⟩ := step_lo k hk1 h8'
        have Hs := hide hstep
        clear hstep
        go_wp2_with (go_at_call 15; refine (samp_lo _ _ _ _ hc hf (unhide Hs) hlt).mono ?_; rintro e w' ⟨rfl, rfl⟩)
        go_roundw
        case rel =>
          exact ⟨k + 1, by omega, by omega, by go_num, by rw [show (((k + 1 : Nat) : Int) - 1) % 8 = (k : Int) % 8 from by omega]; exact World.cell?_setCell_same _ _ _ hc, by simp [hf], hg.setCell (Nat.le_refl _) _⟩
        case measure => simp [intOf]; omega
    · go_wp2
      go_ret
      exact ⟨rfl, hg⟩
end Go.Proofs.Ybulkaomc
