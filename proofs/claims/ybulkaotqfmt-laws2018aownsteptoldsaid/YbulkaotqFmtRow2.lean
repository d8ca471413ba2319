/-
  Rows that the program writes out: what lies behind a literal of rows.
-/
import Derived.Test.YbulkaotqFmtSym
namespace Go.Proofs.YbulkaotqFmt.Wk
open Go.RowKit Fl

def f22 (a b c d : Nat) : Nat → Nat → Nat
  | 0, 0 => a
  | 0, _ => b
  | _, 0 => c
  | _, _ => d
def v2 (a b : Nat) : Nat → Nat
  | 0 => a
  | _ => b

theorem row2 (w : World) (a b : Nat) : (w.alloc (.cells #[.float .f64 a, .float .f64 b] 26)).rowIs w.heap.size 26 2 (fv (v2 a b)) := World.rowIs_alloc w #[.float .f64 a, .float .f64 b] 26 (fv (v2 a b)) (by
  intro i hi
  match i, hi with
  | 0, _ => rfl
  | 1, _ => rfl
  | i + 2, h => exact absurd h (by simp))
theorem row1 (w : World) (a : Nat) : (w.alloc (.cells #[.float .f64 a] 26)).rowIs w.heap.size 26 1 (fv (fun _ => a)) := World.rowIs_alloc w #[.float .f64 a] 26 (fv (fun _ => a)) (by
  intro i hi
  match i, hi with
  | 0, _ => rfl
  | i + 1, h => exact absurd h (by simp))
theorem size_al (w : World) (o : Obj) : (w.alloc o).heap.size = w.heap.size + 1 := by simp

/-- Two rows of two. -/
theorem rows22 (w : World) (N a b c d : Nat) (hN : w.heap.size = N) :
    RowsIn (((w.alloc (.cells #[.float .f64 a, .float .f64 b] 26)).alloc (.cells #[.float .f64 c, .float .f64 d] 26)).alloc (.cells #[.slice (some ⟨N, 0, none⟩) 2 2, .slice (some ⟨N + 1, 0, none⟩) 2 2] 27)) (N + 1 + 1) 2 2 (fun i => N + i) (f22 a b c d) := by
  subst hN
  constructor
  · have h := World.rowIs_alloc ((w.alloc (.cells #[.float .f64 a, .float .f64 b] 26)).alloc (.cells #[.float .f64 c, .float .f64 d] 26)) #[.slice (some ⟨w.heap.size, 0, none⟩) 2 2, .slice (some ⟨w.heap.size + 1, 0, none⟩) 2 2] 27 (fun i => .slice (some ⟨w.heap.size + i, 0, none⟩) 2 2) (by
      intro i hi
      match i, hi with
      | 0, _ => rfl
      | 1, _ => rfl
      | i + 2, h => exact absurd h (by simp))
    rw [size_al, size_al] at h
    exact h
  · intro i hi
    match i, hi with
    | 0, _ => exact (((row2 w a b).alloc _).alloc _).congr (by intro j hj; match j, hj with
        | 0, _ => rfl
        | 1, _ => rfl)
    | 1, _ =>
      have h := (row2 (w.alloc (.cells #[.float .f64 a, .float .f64 b] 26)) c d).alloc (.cells #[.slice (some ⟨w.heap.size, 0, none⟩) 2 2, .slice (some ⟨w.heap.size + 1, 0, none⟩) 2 2] 27)
      rw [size_al] at h
      exact h.congr (by intro j hj; match j, hj with
        | 0, _ => rfl
        | 1, _ => rfl)
/-- Two rows of one. -/
theorem rows21 (w : World) (N a c : Nat) (hN : w.heap.size = N) :
    RowsIn (((w.alloc (.cells #[.float .f64 a] 26)).alloc (.cells #[.float .f64 c] 26)).alloc (.cells #[.slice (some ⟨N, 0, none⟩) 1 1, .slice (some ⟨N + 1, 0, none⟩) 1 1] 27)) (N + 1 + 1) 2 1 (fun i => N + i) (fun i _ => v2 a c i) := by
  subst hN
  constructor
  · have h := World.rowIs_alloc ((w.alloc (.cells #[.float .f64 a] 26)).alloc (.cells #[.float .f64 c] 26)) #[.slice (some ⟨w.heap.size, 0, none⟩) 1 1, .slice (some ⟨w.heap.size + 1, 0, none⟩) 1 1] 27 (fun i => .slice (some ⟨w.heap.size + i, 0, none⟩) 1 1) (by
      intro i hi
      match i, hi with
      | 0, _ => rfl
      | 1, _ => rfl
      | i + 2, h => exact absurd h (by simp))
    rw [size_al, size_al] at h
    exact h
  · intro i hi
    match i, hi with
    | 0, _ => exact (((row1 w a).alloc _).alloc _).congr (by intro j hj; rfl)
    | 1, _ =>
      have h := (row1 (w.alloc (.cells #[.float .f64 a] 26)) c).alloc (.cells #[.slice (some ⟨w.heap.size, 0, none⟩) 1 1, .slice (some ⟨w.heap.size + 1, 0, none⟩) 1 1] 27)
      rw [size_al] at h
      exact h.congr (by intro j hj; rfl)
/-- One row of two. -/
theorem rows12 (w : World) (N a b : Nat) (hN : w.heap.size = N) :
    RowsIn ((w.alloc (.cells #[.float .f64 a, .float .f64 b] 26)).alloc (.cells #[.slice (some ⟨N, 0, none⟩) 2 2] 27)) (N + 1) 1 2 (fun _ => N) (fun _ j => v2 a b j) := by
  subst hN
  constructor
  · have h := World.rowIs_alloc (w.alloc (.cells #[.float .f64 a, .float .f64 b] 26)) #[.slice (some ⟨w.heap.size, 0, none⟩) 2 2] 27 (fun _ => .slice (some ⟨w.heap.size, 0, none⟩) 2 2) (by
      intro i hi
      match i, hi with
      | 0, _ => rfl
      | i + 1, h => exact absurd h (by simp))
    rw [size_al] at h
    exact h
  · intro i hi
    exact (row2 w a b).alloc _
/-- One row of one. -/
theorem rows11 (w : World) (N a : Nat) (hN : w.heap.size = N) :
    RowsIn ((w.alloc (.cells #[.float .f64 a] 26)).alloc (.cells #[.slice (some ⟨N, 0, none⟩) 1 1] 27)) (N + 1) 1 1 (fun _ => N) (fun _ _ => a) := by
  subst hN
  constructor
  · have h := World.rowIs_alloc (w.alloc (.cells #[.float .f64 a] 26)) #[.slice (some ⟨w.heap.size, 0, none⟩) 1 1] 27 (fun _ => .slice (some ⟨w.heap.size, 0, none⟩) 1 1) (by
      intro i hi
      match i, hi with
      | 0, _ => rfl
      | i + 1, h => exact absurd h (by simp))
    rw [size_al] at h
    exact h
  · intro i hi
    exact (row1 w a).alloc _
theorem RowsIn.fr {S : List Nat} {w w' : World} {ob r c : Nat} {rb : Nat → Nat} {f : Nat → Nat → Nat} (h : RowsIn w ob r c rb f) (k : Fr S w w') (ho : ob ∉ S) (hr : ∀ i, i < r → rb i ∉ S) : RowsIn w' ob r c rb f := ⟨k.row h.outer ho, fun i hi => k.row (h.row i hi) (hr i hi)⟩
end Go.Proofs.YbulkaotqFmt.Wk
