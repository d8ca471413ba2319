/-
  MORE LEAVES: zzs2018aeq (8), slices.Equal (38), AppendEntries (9), Sqrt (45), Abs (46), nonzero (48), scaleOf (49), IndexFunc (56), ContainsFunc (47), IsInf (58), row (26), New (16), Dims (18), Clone (15).
-/
import Derived.Test.YbulkaotqFmtMem
namespace Go.Proofs.YbulkaotqFmt.Wk
open Go.RowKit

set_option maxHeartbeats 400000 in
theorem aeq_true (w : World) (b o n c b' o' c' : Nat) (f g : Nat → Nat) (hn : n ≤ 1000) (ha : ∀ i, i < n → w.cell? ⟨b, o + i, none⟩ = some (fv f i)) (hb : ∀ i, i < n → w.cell? ⟨b', o' + i, none⟩ = some (fv g i)) (hs : ∀ i, i < n → Ieee.double.order (f i) (g i) = some .eq) :
    Calls Ybaf.prog 8 #[.slice (some ⟨b, o, none⟩) n c, .slice (some ⟨b', o', none⟩) n c'] w fun e w' => e = .returned (.bool true) ∧ ∃ q, w' = w.drewN q := by
  have Ha := hide ha
  have Hb := hide hb
  have Hs := hide hs
  clear ha hb hs
  go_enter Ybaf.func8, Ybaf.ntmps8
  go_wp2
  go_loopw [13] (fun i wr => ∃ k : Nat, k ≤ n ∧ i = .int .i64 k ∧ ∃ q, wr = w.drewN q) (fun i _ => n - (intOf i).toNat)
  case atStart => exact ⟨0, by omega, rfl, 0, rfl⟩
  case round =>
    obtain ⟨k, hk, rfl, q, rfl⟩ := hrel
    by_cases hkn : (k : Int) < (n : Int)
    · have h2' : FloatKind.f64.format.order (f k) (g k) = some .eq := (unhide Hs) k (by omega)
      have c1 := (unhide Ha) k (by omega)
      have c2 := (unhide Hb) k (by omega)
      unfold fv at c1 c2
      go_wp2
      go_quiet (fail)
      go_wp2
      go_roundw
      case rel => exact ⟨k + 1, by omega, by go_num, _, rfl⟩
      case measure => simp [intOf]; omega
    · go_wp2
      go_ret
      exact ⟨rfl, q, rfl⟩

set_option maxHeartbeats 400000 in
theorem equal_true (w : World) (b o n c b' o' c' : Nat) (f g : Nat → Nat) (hn : n ≤ 1000) (ha : ∀ i, i < n → w.cell? ⟨b, o + i, none⟩ = some (fv f i)) (hb : ∀ i, i < n → w.cell? ⟨b', o' + i, none⟩ = some (fv g i)) (hs : ∀ i, i < n → Ieee.double.order (f i) (g i) = some .eq) :
    Calls Ybaf.prog 38 #[.slice (some ⟨b, o, none⟩) n c, .slice (some ⟨b', o', none⟩) n c'] w fun e w' => e = .returned (.bool true) ∧ ∃ q, w' = w.drewN q := by
  have Ha := hide ha
  have Hb := hide hb
  have Hs := hide hs
  clear ha hb hs
  go_enter Ybaf.func38, Ybaf.ntmps38
  go_wp2
  go_loopw [13] (fun i wr => ∃ k : Nat, k ≤ n ∧ i = .int .i64 k ∧ ∃ q, wr = w.drewN q) (fun i _ => n - (intOf i).toNat)
  case atStart => exact ⟨0, by omega, rfl, 0, rfl⟩
  case round =>
    obtain ⟨k, hk, rfl, q, rfl⟩ := hrel
    by_cases hkn : (k : Int) < (n : Int)
    · have h2' : FloatKind.f64.format.order (f k) (g k) = some .eq := (unhide Hs) k (by omega)
      have c1 := (unhide Ha) k (by omega)
      have c2 := (unhide Hb) k (by omega)
      unfold fv at c1 c2
      go_wp2
      go_quiet (fail)
      go_wp2
      go_roundw
      case rel => exact ⟨k + 1, by omega, by go_num, _, rfl⟩
      case measure => simp [intOf]; omega
    · go_wp2
      go_ret
      exact ⟨rfl, q, rfl⟩

set_option maxHeartbeats 400000 in
theorem sqrt_any (x r : Nat) (h : Ieee.double.sqrt x = some r) (w : World) : Calls Ybaf.prog 45 #[.float .f64 x] w fun e w' => e = .returned (.float .f64 r) ∧ w = w' := by
  have hq : (callFunc 53 #[.float .f64 x]).run Ybaf.prog w = .ok (.value (.float .f64 r)) w := by
    have h1 : (callFunc 53 #[.float .f64 x]).run Ybaf.prog w = ((Extern.MathSqrt.sqrt #[.float .f64 x]).run Ybaf.prog w).andThen fun v w' => .ok (.value v) w' :=
      run_callFunc_extern Ybaf.func53 (by kernel_rfl) (by kernel_rfl) (by kernel_rfl) (by kernel_rfl) _ _
    have h2 : FloatKind.f64.format.sqrt x = some r := h
    have h3 : (Extern.MathSqrt.sqrt #[.float .f64 x]).run Ybaf.prog w = .ok (.float .f64 r) w := by
      change Sem.run Ybaf.prog (match FloatKind.f64.format.sqrt x with | some r => pure (Value.float .f64 r) | none => (do pure (Value.float .f64 (← choose (.nanBits .f64 x x))))) w = _
      rw [h2]; rfl
    rw [h1, h3]; rfl
  clear h
  go_enter Ybaf.func45, Ybaf.ntmps45
  go_wp2
  go_ret
  exact ⟨rfl, rfl⟩

/-- The word without its sign bit. -/
def absW (b : Nat) : Nat := (bits .andNot .u64 (b : Int) 9223372036854775808).toNat

set_option maxHeartbeats 400000 in
theorem abs_any (x : Nat) (w : World) : Calls Ybaf.prog 46 #[.float .f64 x] w fun e w' => e = .returned (.float .f64 (absW x)) ∧ w = w' := by
  have h5 := bits55
  have h4 := from54
  go_enter Ybaf.func46, Ybaf.ntmps46
  go_wp2
  go_ret
  exact ⟨rfl, rfl⟩

set_option maxHeartbeats 400000 in
theorem nonzero_any (x : Nat) (w : World) : Calls Ybaf.prog 48 #[.float .f64 x] w fun e w' => e = .returned (.bool (Ieee.double.order x 0 != some .eq)) ∧ w = w' := by
  go_enter Ybaf.func48, Ybaf.ntmps48
  go_wp2
  go_ret
  exact ⟨rfl, rfl⟩

set_option maxHeartbeats 400000 in
theorem scale_zero (x : Nat) (h : Ieee.double.order x 0 = some .eq) (w : World) : Calls Ybaf.prog 49 #[.float .f64 x] w fun e w' => e = .returned (.float .f64 4607182418800017408) ∧ w = w' := by
  have h' : FloatKind.f64.format.order x 0 = some .eq := h
  clear h
  go_enter Ybaf.func49, Ybaf.ntmps49
  go_wp2
  go_ret
  exact ⟨rfl, rfl⟩

set_option maxHeartbeats 400000 in
theorem scale_pos (x r : Nat) (h : (Ieee.double.order x 0 == some .eq) = false) (hr : Ieee.double.sqrt x = some r) (w : World) : Calls Ybaf.prog 49 #[.float .f64 x] w fun e w' => e = .returned (.float .f64 r) ∧ w = w' := by
  have h' : (FloatKind.f64.format.order x 0 == some .eq) = false := h
  have Hr := hide hr
  clear h hr
  go_enter Ybaf.func49, Ybaf.ntmps49
  go_wp2_with (go_at_call 45; refine (sqrt_any _ r (unhide Hr) _).mono ?_; rintro e w' ⟨rfl, rfl⟩)
  go_ret
  exact ⟨rfl, rfl⟩

set_option maxHeartbeats 400000 in
theorem isInf_false (x : Nat) (h : (Ieee.double.order (absW x) 9218868437227405311 == some .gt) = false) (w : World) : Calls Ybaf.prog 58 #[.float .f64 x, .int .i64 0] w fun e w' => e = .returned (.bool false) ∧ w = w' := by
  have h' : (FloatKind.f64.format.order (absW x) 9218868437227405311 == some .gt) = false := h
  clear h
  go_enter Ybaf.func58, Ybaf.ntmps58
  go_wp2_with (go_at_call 46; refine (abs_any _ _).mono ?_; rintro e w' ⟨rfl, rfl⟩)
  go_ret
  exact ⟨rfl, rfl⟩

set_option maxHeartbeats 400000 in
theorem index_none (w : World) (b o n c : Nat) (f : Nat → Nat) (hn : n ≤ 1000) (ha : ∀ i, i < n → w.cell? ⟨b, o + i, none⟩ = some (fv f i)) (hs : ∀ i, i < n → Ieee.double.order (f i) 0 = some .eq) :
    Calls Ybaf.prog 56 #[.slice (some ⟨b, o, none⟩) n c, .func (.func 48) #[] #[]] w fun e w' => e = .returned (.int .i64 (-1)) ∧ w = w' := by
  have Ha := hide ha
  have Hs := hide hs
  clear ha hs
  go_enter Ybaf.func56, Ybaf.ntmps56
  go_wp2
  go_loop [8] (fun i => ∃ k : Nat, k ≤ n ∧ i = .int .i64 k) (fun i => n - (intOf i).toNat)
  case atStart => exact ⟨0, by omega, rfl⟩
  case round =>
    obtain ⟨k, hk, rfl⟩ := hrel
    by_cases hkn : (k : Int) < (n : Int)
    · have h2 : (Ieee.double.order (f k) 0 != some .eq) = false := by rw [(unhide Hs) k (by omega)]; rfl
      have c1 := (unhide Ha) k (by omega)
      unfold fv at c1
      have H2 := hide h2
      clear h2
      go_wp2_with (go_at_call 48; refine (nonzero_any _ _).mono ?_; rintro e w' ⟨rfl, rfl⟩; rw [unhide H2])
      go_round
      case rel => exact ⟨k + 1, by omega, by go_num⟩
      case measure => simp [intOf]; omega
    · go_wp2
      go_ret
      exact ⟨rfl, rfl⟩

set_option maxHeartbeats 400000 in
theorem contains_false (w : World) (b o n c : Nat) (f : Nat → Nat) (hn : n ≤ 1000) (ha : ∀ i, i < n → w.cell? ⟨b, o + i, none⟩ = some (fv f i)) (hs : ∀ i, i < n → Ieee.double.order (f i) 0 = some .eq) :
    Calls Ybaf.prog 47 #[.slice (some ⟨b, o, none⟩) n c, .func (.func 48) #[] #[]] w fun e w' => e = .returned (.bool false) ∧ w = w' := by
  have Ha := hide ha
  have Hs := hide hs
  clear ha hs
  go_enter Ybaf.func47, Ybaf.ntmps47
  go_wp2_with (go_at_call 56; refine (index_none _ b o n c f hn (unhide Ha) (unhide Hs)).mono ?_; rintro e w' ⟨rfl, rfl⟩)
  go_ret
  exact ⟨rfl, rfl⟩

/-! ### Matrices of at most two rows and columns -/
set_option maxHeartbeats 400000 in
theorem dims_any (w : World) (d r c b : Nat) (f : Nat → Nat) (m : Mat w d r c b f) :
    Calls Ybaf.prog 18 #[.pointer (some ⟨d, 0, none⟩)] w fun e w' => e = .returned (.tuple #[.int .i64 r, .int .i64 c]) ∧ ∃ q, w' = w.drewN q := by
  have c0 := m.c0
  have c1 := m.c1
  clear m
  go_enter Ybaf.func18, Ybaf.ntmps18
  go_wp2
  go_quiet (fail)
  go_wp2
  go_ret2
  exact ⟨rfl, _, rfl⟩

/-- The shapes that are met. -/
def Shape (r c : Nat) : Prop := (r = 1 ∨ r = 2) ∧ (c = 1 ∨ c = 2)

set_option maxHeartbeats 800000 in
theorem row_run (w : World) (d r c b : Nat) (f : Nat → Nat) (m : Mat w d r c b f) (hs : Shape r c) (i : Nat) (hi : i < r) :
    Calls Ybaf.prog 26 #[.pointer (some ⟨d, 0, none⟩), .int .i64 i] w fun e w' => e = .returned (.slice (some ⟨b, i * c, none⟩) c (r * c - i * c)) ∧ ∃ q, w' = w.drewN q := by
  have c1 := m.c1
  have c2 := m.c2
  clear m
  obtain ⟨hr, hc⟩ := hs
  have hi2 : i = 0 ∨ i = 1 := by omega
  rcases hr with rfl | rfl <;> rcases hc with rfl | rfl <;> rcases hi2 with rfl | rfl <;> first | omega | skip
  all_goals
    simp only [Nat.mul_one, Nat.one_mul, Nat.zero_mul, Nat.sub_zero, Nat.reduceMul, Nat.reduceSub] at c2 ⊢
    go_enter Ybaf.func26, Ybaf.ntmps26
    go_wp2
    go_quiet (fail)
    go_wp2
    go_ret
    exact ⟨rfl, _, rfl⟩

theorem new_mat (w : World) (r c n : Nat) (hn : r * c = n) : Mat ((w.alloc (.cells (madeCells #[.float .f64 0] n) 26)).alloc (.cells #[.int .i64 r, .int .i64 c, .slice (some ⟨w.heap.size, 0, none⟩) n n] 76)) (w.heap.size + 1) r c w.heap.size (fun _ => 0) := by
  subst hn
  refine ⟨?_, (World.rowIs_made w (.float .f64 0) (r * c) 26).alloc _⟩
  have h := World.rowIs_alloc (w.alloc (.cells (madeCells #[.float .f64 0] (r * c)) 26)) #[.int .i64 r, .int .i64 c, .slice (some ⟨w.heap.size, 0, none⟩) (r * c) (r * c)] 76 (dv r c w.heap.size) (by
    intro i hi
    match i, hi with
    | 0, _ => rfl
    | 1, _ => rfl
    | 2, _ => rfl)
  simpa using h

theorem make1 (w : World) : (Instr.makeSlice 27 (.int .i64 1) (.int .i64 1)).run Ybaf.prog w = .ok (.slice (some ⟨w.heap.size, 0, none⟩) 1 1) (w.alloc (.cells (madeCells #[.float .f64 0] 1) 26)) := make27 1 (by omega) w
theorem make2 (w : World) : (Instr.makeSlice 27 (.int .i64 2) (.int .i64 2)).run Ybaf.prog w = .ok (.slice (some ⟨w.heap.size, 0, none⟩) 2 2) (w.alloc (.cells (madeCells #[.float .f64 0] 2) 26)) := make27 2 (by omega) w
theorem make4 (w : World) : (Instr.makeSlice 27 (.int .i64 4) (.int .i64 4)).run Ybaf.prog w = .ok (.slice (some ⟨w.heap.size, 0, none⟩) 4 4) (w.alloc (.cells (madeCells #[.float .f64 0] 4) 26)) := make27 4 (by omega) w

set_option maxHeartbeats 800000 in
theorem new_any (w : World) (r c : Nat) (hs : Shape r c) :
    Calls Ybaf.prog 16 #[.int .i64 r, .int .i64 c] w fun e w' => e = .returned (.pointer (some ⟨w.heap.size + 1, 0, none⟩)) ∧ Mat w' (w.heap.size + 1) r c w.heap.size (fun _ => 0) ∧ Fr [] w w' ∧ w'.heap.size = w.heap.size + 2 := by
  obtain ⟨hr, hc⟩ := hs
  have m1 := make1
  have m2 := make2
  have m4 := make4
  rcases hr with rfl | rfl <;> rcases hc with rfl | rfl
  · have HM := hide (new_mat w 1 1 1 rfl)
    go_enter Ybaf.func16, Ybaf.ntmps16
    go_wp2
    go_ret
    exact ⟨rfl, unhide HM, ((Fr.refl _ _).alloc _).alloc _, by simp⟩
  · have HM := hide (new_mat w 1 2 2 rfl)
    go_enter Ybaf.func16, Ybaf.ntmps16
    go_wp2
    go_ret
    exact ⟨rfl, unhide HM, ((Fr.refl _ _).alloc _).alloc _, by simp⟩
  · have HM := hide (new_mat w 2 1 2 rfl)
    go_enter Ybaf.func16, Ybaf.ntmps16
    go_wp2
    go_ret
    exact ⟨rfl, unhide HM, ((Fr.refl _ _).alloc _).alloc _, by simp⟩
  · have HM := hide (new_mat w 2 2 4 rfl)
    go_enter Ybaf.func16, Ybaf.ntmps16
    go_wp2
    go_ret
    exact ⟨rfl, unhide HM, ((Fr.refl _ _).alloc _).alloc _, by simp⟩
end Go.Proofs.YbulkaotqFmt.Wk
