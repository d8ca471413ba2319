/-
  The walk of 'LawS2018AMotionStep' (4).
-/
import Derived.Test.YbulkaotqFmtCv
import Derived.Test.YbulkaotqFmtMst
namespace Go.Proofs.YbulkaotqFmt.Wk
open Go.RowKit Fl
attribute [local go_sem] store_fl7

theorem size_dr (w : World) (n : Nat) : (w.drewN n).heap.size = w.heap.size := rfl
theorem fin22 {a b c d : Nat} (ha : Fin1 a) (hb : Fin1 b) (hc : Fin1 c) (hd : Fin1 d) : ∀ i, i < 2 → ∀ j, j < 2 → Fin1 (f22 a b c d i j) := by
  intro i hi j hj
  match i, hi, j, hj with
  | 0, _, 0, _ => exact ha
  | 0, _, 1, _ => exact hb
  | 1, _, 0, _ => exact hc
  | 1, _, 1, _ => exact hd
theorem cells2 (w : World) (a b : Value) (t : TypeId) : (w.alloc (.cells #[a, b] t)).rowIs w.heap.size t 2 (fun i => if i = 0 then a else b) := World.rowIs_alloc w #[a, b] t _ (by
  intro i hi
  match i, hi with
  | 0, _ => rfl
  | 1, _ => rfl
  | i + 2, h => exact absurd h (by simp))

/-- What the law's literal of a model lays. -/
theorem model_laid (v : World) (dA dW dI a0 a1 a2 q0 q1 : Nat) :
    Fr [] v (World.alloc (World.alloc (World.alloc (World.alloc (World.alloc (World.alloc (World.alloc (World.alloc (World.alloc (World.alloc (World.alloc (World.alloc v (.cells #[.pointer (some ⟨dA, 0, none⟩), .pointer (some ⟨dW, 0, none⟩), .pointer (some ⟨dI, 0, none⟩), .slice none 0 0] 58)) (.cells #[.float .f64 a0, .float .f64 a1] 26)) (.cells #[.float .f64 a1, .float .f64 a2] 26)) (.cells #[.slice (some ⟨v.heap.size + 1, 0, none⟩) 2 2, .slice (some ⟨v.heap.size + 1 + 1, 0, none⟩) 2 2] 27)) (.cells #[.float .f64 4607182418800017408, .float .f64 0] 26)) (.cells #[.slice (some ⟨v.heap.size + 1 + 1 + 1 + 1, 0, none⟩) 2 2] 27)) (.cells #[.float .f64 q0, .float .f64 0] 26)) (.cells #[.float .f64 0, .float .f64 q1] 26)) (.cells #[.slice (some ⟨v.heap.size + 1 + 1 + 1 + 1 + 1 + 1, 0, none⟩) 2 2, .slice (some ⟨v.heap.size + 1 + 1 + 1 + 1 + 1 + 1 + 1, 0, none⟩) 2 2] 27)) (.cells #[.float .f64 4607182418800017408] 26)) (.cells #[.slice (some ⟨v.heap.size + 1 + 1 + 1 + 1 + 1 + 1 + 1 + 1 + 1, 0, none⟩) 1 1] 27)) (.cells #[.slice (some ⟨v.heap.size + 1 + 1 + 1, 0, none⟩) 2 2, .slice none 0 0, .slice (some ⟨v.heap.size + 1 + 1 + 1 + 1 + 1, 0, none⟩) 1 1, .slice (some ⟨v.heap.size + 1 + 1 + 1 + 1 + 1 + 1 + 1 + 1, 0, none⟩) 2 2, .slice (some ⟨v.heap.size + 1 + 1 + 1 + 1 + 1 + 1 + 1 + 1 + 1 + 1, 0, none⟩) 1 1, .iface 56 (.pointer (some ⟨v.heap.size, 0, none⟩)), .float .f64 4607182418800017408] 32)) ∧ World.rowIs (World.alloc (World.alloc (World.alloc (World.alloc (World.alloc (World.alloc (World.alloc (World.alloc (World.alloc (World.alloc (World.alloc (World.alloc v (.cells #[.pointer (some ⟨dA, 0, none⟩), .pointer (some ⟨dW, 0, none⟩), .pointer (some ⟨dI, 0, none⟩), .slice none 0 0] 58)) (.cells #[.float .f64 a0, .float .f64 a1] 26)) (.cells #[.float .f64 a1, .float .f64 a2] 26)) (.cells #[.slice (some ⟨v.heap.size + 1, 0, none⟩) 2 2, .slice (some ⟨v.heap.size + 1 + 1, 0, none⟩) 2 2] 27)) (.cells #[.float .f64 4607182418800017408, .float .f64 0] 26)) (.cells #[.slice (some ⟨v.heap.size + 1 + 1 + 1 + 1, 0, none⟩) 2 2] 27)) (.cells #[.float .f64 q0, .float .f64 0] 26)) (.cells #[.float .f64 0, .float .f64 q1] 26)) (.cells #[.slice (some ⟨v.heap.size + 1 + 1 + 1 + 1 + 1 + 1, 0, none⟩) 2 2, .slice (some ⟨v.heap.size + 1 + 1 + 1 + 1 + 1 + 1 + 1, 0, none⟩) 2 2] 27)) (.cells #[.float .f64 4607182418800017408] 26)) (.cells #[.slice (some ⟨v.heap.size + 1 + 1 + 1 + 1 + 1 + 1 + 1 + 1 + 1, 0, none⟩) 1 1] 27)) (.cells #[.slice (some ⟨v.heap.size + 1 + 1 + 1, 0, none⟩) 2 2, .slice none 0 0, .slice (some ⟨v.heap.size + 1 + 1 + 1 + 1 + 1, 0, none⟩) 1 1, .slice (some ⟨v.heap.size + 1 + 1 + 1 + 1 + 1 + 1 + 1 + 1, 0, none⟩) 2 2, .slice (some ⟨v.heap.size + 1 + 1 + 1 + 1 + 1 + 1 + 1 + 1 + 1 + 1, 0, none⟩) 1 1, .iface 56 (.pointer (some ⟨v.heap.size, 0, none⟩)), .float .f64 4607182418800017408] 32)) v.heap.size 58 4 (mv dA dW dI (.slice none 0 0)) ∧
    (∃ r, RowsIn (World.alloc (World.alloc (World.alloc (World.alloc (World.alloc (World.alloc (World.alloc (World.alloc (World.alloc (World.alloc (World.alloc (World.alloc v (.cells #[.pointer (some ⟨dA, 0, none⟩), .pointer (some ⟨dW, 0, none⟩), .pointer (some ⟨dI, 0, none⟩), .slice none 0 0] 58)) (.cells #[.float .f64 a0, .float .f64 a1] 26)) (.cells #[.float .f64 a1, .float .f64 a2] 26)) (.cells #[.slice (some ⟨v.heap.size + 1, 0, none⟩) 2 2, .slice (some ⟨v.heap.size + 1 + 1, 0, none⟩) 2 2] 27)) (.cells #[.float .f64 4607182418800017408, .float .f64 0] 26)) (.cells #[.slice (some ⟨v.heap.size + 1 + 1 + 1 + 1, 0, none⟩) 2 2] 27)) (.cells #[.float .f64 q0, .float .f64 0] 26)) (.cells #[.float .f64 0, .float .f64 q1] 26)) (.cells #[.slice (some ⟨v.heap.size + 1 + 1 + 1 + 1 + 1 + 1, 0, none⟩) 2 2, .slice (some ⟨v.heap.size + 1 + 1 + 1 + 1 + 1 + 1 + 1, 0, none⟩) 2 2] 27)) (.cells #[.float .f64 4607182418800017408] 26)) (.cells #[.slice (some ⟨v.heap.size + 1 + 1 + 1 + 1 + 1 + 1 + 1 + 1 + 1, 0, none⟩) 1 1] 27)) (.cells #[.slice (some ⟨v.heap.size + 1 + 1 + 1, 0, none⟩) 2 2, .slice none 0 0, .slice (some ⟨v.heap.size + 1 + 1 + 1 + 1 + 1, 0, none⟩) 1 1, .slice (some ⟨v.heap.size + 1 + 1 + 1 + 1 + 1 + 1 + 1 + 1, 0, none⟩) 2 2, .slice (some ⟨v.heap.size + 1 + 1 + 1 + 1 + 1 + 1 + 1 + 1 + 1 + 1, 0, none⟩) 1 1, .iface 56 (.pointer (some ⟨v.heap.size, 0, none⟩)), .float .f64 4607182418800017408] 32)) (v.heap.size + 1 + 1 + 1) 2 2 r (f22 a0 a1 a1 a2)) ∧ (∃ r, RowsIn (World.alloc (World.alloc (World.alloc (World.alloc (World.alloc (World.alloc (World.alloc (World.alloc (World.alloc (World.alloc (World.alloc (World.alloc v (.cells #[.pointer (some ⟨dA, 0, none⟩), .pointer (some ⟨dW, 0, none⟩), .pointer (some ⟨dI, 0, none⟩), .slice none 0 0] 58)) (.cells #[.float .f64 a0, .float .f64 a1] 26)) (.cells #[.float .f64 a1, .float .f64 a2] 26)) (.cells #[.slice (some ⟨v.heap.size + 1, 0, none⟩) 2 2, .slice (some ⟨v.heap.size + 1 + 1, 0, none⟩) 2 2] 27)) (.cells #[.float .f64 4607182418800017408, .float .f64 0] 26)) (.cells #[.slice (some ⟨v.heap.size + 1 + 1 + 1 + 1, 0, none⟩) 2 2] 27)) (.cells #[.float .f64 q0, .float .f64 0] 26)) (.cells #[.float .f64 0, .float .f64 q1] 26)) (.cells #[.slice (some ⟨v.heap.size + 1 + 1 + 1 + 1 + 1 + 1, 0, none⟩) 2 2, .slice (some ⟨v.heap.size + 1 + 1 + 1 + 1 + 1 + 1 + 1, 0, none⟩) 2 2] 27)) (.cells #[.float .f64 4607182418800017408] 26)) (.cells #[.slice (some ⟨v.heap.size + 1 + 1 + 1 + 1 + 1 + 1 + 1 + 1 + 1, 0, none⟩) 1 1] 27)) (.cells #[.slice (some ⟨v.heap.size + 1 + 1 + 1, 0, none⟩) 2 2, .slice none 0 0, .slice (some ⟨v.heap.size + 1 + 1 + 1 + 1 + 1, 0, none⟩) 1 1, .slice (some ⟨v.heap.size + 1 + 1 + 1 + 1 + 1 + 1 + 1 + 1, 0, none⟩) 2 2, .slice (some ⟨v.heap.size + 1 + 1 + 1 + 1 + 1 + 1 + 1 + 1 + 1 + 1, 0, none⟩) 1 1, .iface 56 (.pointer (some ⟨v.heap.size, 0, none⟩)), .float .f64 4607182418800017408] 32)) (v.heap.size + 1 + 1 + 1 + 1 + 1) 1 2 r (fun _ j => v2 4607182418800017408 0 j)) ∧ (∃ r, RowsIn (World.alloc (World.alloc (World.alloc (World.alloc (World.alloc (World.alloc (World.alloc (World.alloc (World.alloc (World.alloc (World.alloc (World.alloc v (.cells #[.pointer (some ⟨dA, 0, none⟩), .pointer (some ⟨dW, 0, none⟩), .pointer (some ⟨dI, 0, none⟩), .slice none 0 0] 58)) (.cells #[.float .f64 a0, .float .f64 a1] 26)) (.cells #[.float .f64 a1, .float .f64 a2] 26)) (.cells #[.slice (some ⟨v.heap.size + 1, 0, none⟩) 2 2, .slice (some ⟨v.heap.size + 1 + 1, 0, none⟩) 2 2] 27)) (.cells #[.float .f64 4607182418800017408, .float .f64 0] 26)) (.cells #[.slice (some ⟨v.heap.size + 1 + 1 + 1 + 1, 0, none⟩) 2 2] 27)) (.cells #[.float .f64 q0, .float .f64 0] 26)) (.cells #[.float .f64 0, .float .f64 q1] 26)) (.cells #[.slice (some ⟨v.heap.size + 1 + 1 + 1 + 1 + 1 + 1, 0, none⟩) 2 2, .slice (some ⟨v.heap.size + 1 + 1 + 1 + 1 + 1 + 1 + 1, 0, none⟩) 2 2] 27)) (.cells #[.float .f64 4607182418800017408] 26)) (.cells #[.slice (some ⟨v.heap.size + 1 + 1 + 1 + 1 + 1 + 1 + 1 + 1 + 1, 0, none⟩) 1 1] 27)) (.cells #[.slice (some ⟨v.heap.size + 1 + 1 + 1, 0, none⟩) 2 2, .slice none 0 0, .slice (some ⟨v.heap.size + 1 + 1 + 1 + 1 + 1, 0, none⟩) 1 1, .slice (some ⟨v.heap.size + 1 + 1 + 1 + 1 + 1 + 1 + 1 + 1, 0, none⟩) 2 2, .slice (some ⟨v.heap.size + 1 + 1 + 1 + 1 + 1 + 1 + 1 + 1 + 1 + 1, 0, none⟩) 1 1, .iface 56 (.pointer (some ⟨v.heap.size, 0, none⟩)), .float .f64 4607182418800017408] 32)) (v.heap.size + 1 + 1 + 1 + 1 + 1 + 1 + 1 + 1) 2 2 r (f22 q0 0 0 q1)) ∧ (∃ r, RowsIn (World.alloc (World.alloc (World.alloc (World.alloc (World.alloc (World.alloc (World.alloc (World.alloc (World.alloc (World.alloc (World.alloc (World.alloc v (.cells #[.pointer (some ⟨dA, 0, none⟩), .pointer (some ⟨dW, 0, none⟩), .pointer (some ⟨dI, 0, none⟩), .slice none 0 0] 58)) (.cells #[.float .f64 a0, .float .f64 a1] 26)) (.cells #[.float .f64 a1, .float .f64 a2] 26)) (.cells #[.slice (some ⟨v.heap.size + 1, 0, none⟩) 2 2, .slice (some ⟨v.heap.size + 1 + 1, 0, none⟩) 2 2] 27)) (.cells #[.float .f64 4607182418800017408, .float .f64 0] 26)) (.cells #[.slice (some ⟨v.heap.size + 1 + 1 + 1 + 1, 0, none⟩) 2 2] 27)) (.cells #[.float .f64 q0, .float .f64 0] 26)) (.cells #[.float .f64 0, .float .f64 q1] 26)) (.cells #[.slice (some ⟨v.heap.size + 1 + 1 + 1 + 1 + 1 + 1, 0, none⟩) 2 2, .slice (some ⟨v.heap.size + 1 + 1 + 1 + 1 + 1 + 1 + 1, 0, none⟩) 2 2] 27)) (.cells #[.float .f64 4607182418800017408] 26)) (.cells #[.slice (some ⟨v.heap.size + 1 + 1 + 1 + 1 + 1 + 1 + 1 + 1 + 1, 0, none⟩) 1 1] 27)) (.cells #[.slice (some ⟨v.heap.size + 1 + 1 + 1, 0, none⟩) 2 2, .slice none 0 0, .slice (some ⟨v.heap.size + 1 + 1 + 1 + 1 + 1, 0, none⟩) 1 1, .slice (some ⟨v.heap.size + 1 + 1 + 1 + 1 + 1 + 1 + 1 + 1, 0, none⟩) 2 2, .slice (some ⟨v.heap.size + 1 + 1 + 1 + 1 + 1 + 1 + 1 + 1 + 1 + 1, 0, none⟩) 1 1, .iface 56 (.pointer (some ⟨v.heap.size, 0, none⟩)), .float .f64 4607182418800017408] 32)) (v.heap.size + 1 + 1 + 1 + 1 + 1 + 1 + 1 + 1 + 1 + 1) 1 1 r (fun _ _ => 4607182418800017408)) ∧
    World.rowIs (World.alloc (World.alloc (World.alloc (World.alloc (World.alloc (World.alloc (World.alloc (World.alloc (World.alloc (World.alloc (World.alloc (World.alloc v (.cells #[.pointer (some ⟨dA, 0, none⟩), .pointer (some ⟨dW, 0, none⟩), .pointer (some ⟨dI, 0, none⟩), .slice none 0 0] 58)) (.cells #[.float .f64 a0, .float .f64 a1] 26)) (.cells #[.float .f64 a1, .float .f64 a2] 26)) (.cells #[.slice (some ⟨v.heap.size + 1, 0, none⟩) 2 2, .slice (some ⟨v.heap.size + 1 + 1, 0, none⟩) 2 2] 27)) (.cells #[.float .f64 4607182418800017408, .float .f64 0] 26)) (.cells #[.slice (some ⟨v.heap.size + 1 + 1 + 1 + 1, 0, none⟩) 2 2] 27)) (.cells #[.float .f64 q0, .float .f64 0] 26)) (.cells #[.float .f64 0, .float .f64 q1] 26)) (.cells #[.slice (some ⟨v.heap.size + 1 + 1 + 1 + 1 + 1 + 1, 0, none⟩) 2 2, .slice (some ⟨v.heap.size + 1 + 1 + 1 + 1 + 1 + 1 + 1, 0, none⟩) 2 2] 27)) (.cells #[.float .f64 4607182418800017408] 26)) (.cells #[.slice (some ⟨v.heap.size + 1 + 1 + 1 + 1 + 1 + 1 + 1 + 1 + 1, 0, none⟩) 1 1] 27)) (.cells #[.slice (some ⟨v.heap.size + 1 + 1 + 1, 0, none⟩) 2 2, .slice none 0 0, .slice (some ⟨v.heap.size + 1 + 1 + 1 + 1 + 1, 0, none⟩) 1 1, .slice (some ⟨v.heap.size + 1 + 1 + 1 + 1 + 1 + 1 + 1 + 1, 0, none⟩) 2 2, .slice (some ⟨v.heap.size + 1 + 1 + 1 + 1 + 1 + 1 + 1 + 1 + 1 + 1, 0, none⟩) 1 1, .iface 56 (.pointer (some ⟨v.heap.size, 0, none⟩)), .float .f64 4607182418800017408] 32)) (v.heap.size + 1 + 1 + 1 + 1 + 1 + 1 + 1 + 1 + 1 + 1 + 1) 32 7 (mcell (v.heap.size + 1 + 1 + 1) (.slice none 0 0) (v.heap.size + 1 + 1 + 1 + 1 + 1) (v.heap.size + 1 + 1 + 1 + 1 + 1 + 1 + 1 + 1) (v.heap.size + 1 + 1 + 1 + 1 + 1 + 1 + 1 + 1 + 1 + 1) (.iface 56 (.pointer (some ⟨v.heap.size, 0, none⟩))) (.float .f64 4607182418800017408)) := by
  have z1 : (World.alloc v (.cells #[.pointer (some ⟨dA, 0, none⟩), .pointer (some ⟨dW, 0, none⟩), .pointer (some ⟨dI, 0, none⟩), .slice none 0 0] 58)).heap.size = v.heap.size + 1 := by simp
  have z4 : (World.alloc (World.alloc (World.alloc (World.alloc v (.cells #[.pointer (some ⟨dA, 0, none⟩), .pointer (some ⟨dW, 0, none⟩), .pointer (some ⟨dI, 0, none⟩), .slice none 0 0] 58)) (.cells #[.float .f64 a0, .float .f64 a1] 26)) (.cells #[.float .f64 a1, .float .f64 a2] 26)) (.cells #[.slice (some ⟨v.heap.size + 1, 0, none⟩) 2 2, .slice (some ⟨v.heap.size + 1 + 1, 0, none⟩) 2 2] 27)).heap.size = v.heap.size + 1 + 1 + 1 + 1 := by simp
  have z6 : (World.alloc (World.alloc (World.alloc (World.alloc (World.alloc (World.alloc v (.cells #[.pointer (some ⟨dA, 0, none⟩), .pointer (some ⟨dW, 0, none⟩), .pointer (some ⟨dI, 0, none⟩), .slice none 0 0] 58)) (.cells #[.float .f64 a0, .float .f64 a1] 26)) (.cells #[.float .f64 a1, .float .f64 a2] 26)) (.cells #[.slice (some ⟨v.heap.size + 1, 0, none⟩) 2 2, .slice (some ⟨v.heap.size + 1 + 1, 0, none⟩) 2 2] 27)) (.cells #[.float .f64 4607182418800017408, .float .f64 0] 26)) (.cells #[.slice (some ⟨v.heap.size + 1 + 1 + 1 + 1, 0, none⟩) 2 2] 27)).heap.size = v.heap.size + 1 + 1 + 1 + 1 + 1 + 1 := by simp
  have z9 : (World.alloc (World.alloc (World.alloc (World.alloc (World.alloc (World.alloc (World.alloc (World.alloc (World.alloc v (.cells #[.pointer (some ⟨dA, 0, none⟩), .pointer (some ⟨dW, 0, none⟩), .pointer (some ⟨dI, 0, none⟩), .slice none 0 0] 58)) (.cells #[.float .f64 a0, .float .f64 a1] 26)) (.cells #[.float .f64 a1, .float .f64 a2] 26)) (.cells #[.slice (some ⟨v.heap.size + 1, 0, none⟩) 2 2, .slice (some ⟨v.heap.size + 1 + 1, 0, none⟩) 2 2] 27)) (.cells #[.float .f64 4607182418800017408, .float .f64 0] 26)) (.cells #[.slice (some ⟨v.heap.size + 1 + 1 + 1 + 1, 0, none⟩) 2 2] 27)) (.cells #[.float .f64 q0, .float .f64 0] 26)) (.cells #[.float .f64 0, .float .f64 q1] 26)) (.cells #[.slice (some ⟨v.heap.size + 1 + 1 + 1 + 1 + 1 + 1, 0, none⟩) 2 2, .slice (some ⟨v.heap.size + 1 + 1 + 1 + 1 + 1 + 1 + 1, 0, none⟩) 2 2] 27)).heap.size = v.heap.size + 1 + 1 + 1 + 1 + 1 + 1 + 1 + 1 + 1 := by simp
  have z11 : (World.alloc (World.alloc (World.alloc (World.alloc (World.alloc (World.alloc (World.alloc (World.alloc (World.alloc (World.alloc (World.alloc v (.cells #[.pointer (some ⟨dA, 0, none⟩), .pointer (some ⟨dW, 0, none⟩), .pointer (some ⟨dI, 0, none⟩), .slice none 0 0] 58)) (.cells #[.float .f64 a0, .float .f64 a1] 26)) (.cells #[.float .f64 a1, .float .f64 a2] 26)) (.cells #[.slice (some ⟨v.heap.size + 1, 0, none⟩) 2 2, .slice (some ⟨v.heap.size + 1 + 1, 0, none⟩) 2 2] 27)) (.cells #[.float .f64 4607182418800017408, .float .f64 0] 26)) (.cells #[.slice (some ⟨v.heap.size + 1 + 1 + 1 + 1, 0, none⟩) 2 2] 27)) (.cells #[.float .f64 q0, .float .f64 0] 26)) (.cells #[.float .f64 0, .float .f64 q1] 26)) (.cells #[.slice (some ⟨v.heap.size + 1 + 1 + 1 + 1 + 1 + 1, 0, none⟩) 2 2, .slice (some ⟨v.heap.size + 1 + 1 + 1 + 1 + 1 + 1 + 1, 0, none⟩) 2 2] 27)) (.cells #[.float .f64 4607182418800017408] 26)) (.cells #[.slice (some ⟨v.heap.size + 1 + 1 + 1 + 1 + 1 + 1 + 1 + 1 + 1, 0, none⟩) 1 1] 27)).heap.size = v.heap.size + 1 + 1 + 1 + 1 + 1 + 1 + 1 + 1 + 1 + 1 + 1 := by simp
  have g11 : Fr [] (World.alloc (World.alloc (World.alloc (World.alloc (World.alloc (World.alloc (World.alloc (World.alloc (World.alloc (World.alloc (World.alloc v (.cells #[.pointer (some ⟨dA, 0, none⟩), .pointer (some ⟨dW, 0, none⟩), .pointer (some ⟨dI, 0, none⟩), .slice none 0 0] 58)) (.cells #[.float .f64 a0, .float .f64 a1] 26)) (.cells #[.float .f64 a1, .float .f64 a2] 26)) (.cells #[.slice (some ⟨v.heap.size + 1, 0, none⟩) 2 2, .slice (some ⟨v.heap.size + 1 + 1, 0, none⟩) 2 2] 27)) (.cells #[.float .f64 4607182418800017408, .float .f64 0] 26)) (.cells #[.slice (some ⟨v.heap.size + 1 + 1 + 1 + 1, 0, none⟩) 2 2] 27)) (.cells #[.float .f64 q0, .float .f64 0] 26)) (.cells #[.float .f64 0, .float .f64 q1] 26)) (.cells #[.slice (some ⟨v.heap.size + 1 + 1 + 1 + 1 + 1 + 1, 0, none⟩) 2 2, .slice (some ⟨v.heap.size + 1 + 1 + 1 + 1 + 1 + 1 + 1, 0, none⟩) 2 2] 27)) (.cells #[.float .f64 4607182418800017408] 26)) (.cells #[.slice (some ⟨v.heap.size + 1 + 1 + 1 + 1 + 1 + 1 + 1 + 1 + 1, 0, none⟩) 1 1] 27)) (World.alloc (World.alloc (World.alloc (World.alloc (World.alloc (World.alloc (World.alloc (World.alloc (World.alloc (World.alloc (World.alloc (World.alloc v (.cells #[.pointer (some ⟨dA, 0, none⟩), .pointer (some ⟨dW, 0, none⟩), .pointer (some ⟨dI, 0, none⟩), .slice none 0 0] 58)) (.cells #[.float .f64 a0, .float .f64 a1] 26)) (.cells #[.float .f64 a1, .float .f64 a2] 26)) (.cells #[.slice (some ⟨v.heap.size + 1, 0, none⟩) 2 2, .slice (some ⟨v.heap.size + 1 + 1, 0, none⟩) 2 2] 27)) (.cells #[.float .f64 4607182418800017408, .float .f64 0] 26)) (.cells #[.slice (some ⟨v.heap.size + 1 + 1 + 1 + 1, 0, none⟩) 2 2] 27)) (.cells #[.float .f64 q0, .float .f64 0] 26)) (.cells #[.float .f64 0, .float .f64 q1] 26)) (.cells #[.slice (some ⟨v.heap.size + 1 + 1 + 1 + 1 + 1 + 1, 0, none⟩) 2 2, .slice (some ⟨v.heap.size + 1 + 1 + 1 + 1 + 1 + 1 + 1, 0, none⟩) 2 2] 27)) (.cells #[.float .f64 4607182418800017408] 26)) (.cells #[.slice (some ⟨v.heap.size + 1 + 1 + 1 + 1 + 1 + 1 + 1 + 1 + 1, 0, none⟩) 1 1] 27)) (.cells #[.slice (some ⟨v.heap.size + 1 + 1 + 1, 0, none⟩) 2 2, .slice none 0 0, .slice (some ⟨v.heap.size + 1 + 1 + 1 + 1 + 1, 0, none⟩) 1 1, .slice (some ⟨v.heap.size + 1 + 1 + 1 + 1 + 1 + 1 + 1 + 1, 0, none⟩) 2 2, .slice (some ⟨v.heap.size + 1 + 1 + 1 + 1 + 1 + 1 + 1 + 1 + 1 + 1, 0, none⟩) 1 1, .iface 56 (.pointer (some ⟨v.heap.size, 0, none⟩)), .float .f64 4607182418800017408] 32)) := (Fr.refl [] _).alloc _
  have g9 : Fr [] (World.alloc (World.alloc (World.alloc (World.alloc (World.alloc (World.alloc (World.alloc (World.alloc (World.alloc v (.cells #[.pointer (some ⟨dA, 0, none⟩), .pointer (some ⟨dW, 0, none⟩), .pointer (some ⟨dI, 0, none⟩), .slice none 0 0] 58)) (.cells #[.float .f64 a0, .float .f64 a1] 26)) (.cells #[.float .f64 a1, .float .f64 a2] 26)) (.cells #[.slice (some ⟨v.heap.size + 1, 0, none⟩) 2 2, .slice (some ⟨v.heap.size + 1 + 1, 0, none⟩) 2 2] 27)) (.cells #[.float .f64 4607182418800017408, .float .f64 0] 26)) (.cells #[.slice (some ⟨v.heap.size + 1 + 1 + 1 + 1, 0, none⟩) 2 2] 27)) (.cells #[.float .f64 q0, .float .f64 0] 26)) (.cells #[.float .f64 0, .float .f64 q1] 26)) (.cells #[.slice (some ⟨v.heap.size + 1 + 1 + 1 + 1 + 1 + 1, 0, none⟩) 2 2, .slice (some ⟨v.heap.size + 1 + 1 + 1 + 1 + 1 + 1 + 1, 0, none⟩) 2 2] 27)) (World.alloc (World.alloc (World.alloc (World.alloc (World.alloc (World.alloc (World.alloc (World.alloc (World.alloc (World.alloc (World.alloc (World.alloc v (.cells #[.pointer (some ⟨dA, 0, none⟩), .pointer (some ⟨dW, 0, none⟩), .pointer (some ⟨dI, 0, none⟩), .slice none 0 0] 58)) (.cells #[.float .f64 a0, .float .f64 a1] 26)) (.cells #[.float .f64 a1, .float .f64 a2] 26)) (.cells #[.slice (some ⟨v.heap.size + 1, 0, none⟩) 2 2, .slice (some ⟨v.heap.size + 1 + 1, 0, none⟩) 2 2] 27)) (.cells #[.float .f64 4607182418800017408, .float .f64 0] 26)) (.cells #[.slice (some ⟨v.heap.size + 1 + 1 + 1 + 1, 0, none⟩) 2 2] 27)) (.cells #[.float .f64 q0, .float .f64 0] 26)) (.cells #[.float .f64 0, .float .f64 q1] 26)) (.cells #[.slice (some ⟨v.heap.size + 1 + 1 + 1 + 1 + 1 + 1, 0, none⟩) 2 2, .slice (some ⟨v.heap.size + 1 + 1 + 1 + 1 + 1 + 1 + 1, 0, none⟩) 2 2] 27)) (.cells #[.float .f64 4607182418800017408] 26)) (.cells #[.slice (some ⟨v.heap.size + 1 + 1 + 1 + 1 + 1 + 1 + 1 + 1 + 1, 0, none⟩) 1 1] 27)) (.cells #[.slice (some ⟨v.heap.size + 1 + 1 + 1, 0, none⟩) 2 2, .slice none 0 0, .slice (some ⟨v.heap.size + 1 + 1 + 1 + 1 + 1, 0, none⟩) 1 1, .slice (some ⟨v.heap.size + 1 + 1 + 1 + 1 + 1 + 1 + 1 + 1, 0, none⟩) 2 2, .slice (some ⟨v.heap.size + 1 + 1 + 1 + 1 + 1 + 1 + 1 + 1 + 1 + 1, 0, none⟩) 1 1, .iface 56 (.pointer (some ⟨v.heap.size, 0, none⟩)), .float .f64 4607182418800017408] 32)) := (((Fr.refl [] _).alloc _).alloc _).alloc _
  have g6 : Fr [] (World.alloc (World.alloc (World.alloc (World.alloc (World.alloc (World.alloc v (.cells #[.pointer (some ⟨dA, 0, none⟩), .pointer (some ⟨dW, 0, none⟩), .pointer (some ⟨dI, 0, none⟩), .slice none 0 0] 58)) (.cells #[.float .f64 a0, .float .f64 a1] 26)) (.cells #[.float .f64 a1, .float .f64 a2] 26)) (.cells #[.slice (some ⟨v.heap.size + 1, 0, none⟩) 2 2, .slice (some ⟨v.heap.size + 1 + 1, 0, none⟩) 2 2] 27)) (.cells #[.float .f64 4607182418800017408, .float .f64 0] 26)) (.cells #[.slice (some ⟨v.heap.size + 1 + 1 + 1 + 1, 0, none⟩) 2 2] 27)) (World.alloc (World.alloc (World.alloc (World.alloc (World.alloc (World.alloc (World.alloc (World.alloc (World.alloc (World.alloc (World.alloc (World.alloc v (.cells #[.pointer (some ⟨dA, 0, none⟩), .pointer (some ⟨dW, 0, none⟩), .pointer (some ⟨dI, 0, none⟩), .slice none 0 0] 58)) (.cells #[.float .f64 a0, .float .f64 a1] 26)) (.cells #[.float .f64 a1, .float .f64 a2] 26)) (.cells #[.slice (some ⟨v.heap.size + 1, 0, none⟩) 2 2, .slice (some ⟨v.heap.size + 1 + 1, 0, none⟩) 2 2] 27)) (.cells #[.float .f64 4607182418800017408, .float .f64 0] 26)) (.cells #[.slice (some ⟨v.heap.size + 1 + 1 + 1 + 1, 0, none⟩) 2 2] 27)) (.cells #[.float .f64 q0, .float .f64 0] 26)) (.cells #[.float .f64 0, .float .f64 q1] 26)) (.cells #[.slice (some ⟨v.heap.size + 1 + 1 + 1 + 1 + 1 + 1, 0, none⟩) 2 2, .slice (some ⟨v.heap.size + 1 + 1 + 1 + 1 + 1 + 1 + 1, 0, none⟩) 2 2] 27)) (.cells #[.float .f64 4607182418800017408] 26)) (.cells #[.slice (some ⟨v.heap.size + 1 + 1 + 1 + 1 + 1 + 1 + 1 + 1 + 1, 0, none⟩) 1 1] 27)) (.cells #[.slice (some ⟨v.heap.size + 1 + 1 + 1, 0, none⟩) 2 2, .slice none 0 0, .slice (some ⟨v.heap.size + 1 + 1 + 1 + 1 + 1, 0, none⟩) 1 1, .slice (some ⟨v.heap.size + 1 + 1 + 1 + 1 + 1 + 1 + 1 + 1, 0, none⟩) 2 2, .slice (some ⟨v.heap.size + 1 + 1 + 1 + 1 + 1 + 1 + 1 + 1 + 1 + 1, 0, none⟩) 1 1, .iface 56 (.pointer (some ⟨v.heap.size, 0, none⟩)), .float .f64 4607182418800017408] 32)) := ((((((Fr.refl [] _).alloc _).alloc _).alloc _).alloc _).alloc _).alloc _
  have g4 : Fr [] (World.alloc (World.alloc (World.alloc (World.alloc v (.cells #[.pointer (some ⟨dA, 0, none⟩), .pointer (some ⟨dW, 0, none⟩), .pointer (some ⟨dI, 0, none⟩), .slice none 0 0] 58)) (.cells #[.float .f64 a0, .float .f64 a1] 26)) (.cells #[.float .f64 a1, .float .f64 a2] 26)) (.cells #[.slice (some ⟨v.heap.size + 1, 0, none⟩) 2 2, .slice (some ⟨v.heap.size + 1 + 1, 0, none⟩) 2 2] 27)) (World.alloc (World.alloc (World.alloc (World.alloc (World.alloc (World.alloc (World.alloc (World.alloc (World.alloc (World.alloc (World.alloc (World.alloc v (.cells #[.pointer (some ⟨dA, 0, none⟩), .pointer (some ⟨dW, 0, none⟩), .pointer (some ⟨dI, 0, none⟩), .slice none 0 0] 58)) (.cells #[.float .f64 a0, .float .f64 a1] 26)) (.cells #[.float .f64 a1, .float .f64 a2] 26)) (.cells #[.slice (some ⟨v.heap.size + 1, 0, none⟩) 2 2, .slice (some ⟨v.heap.size + 1 + 1, 0, none⟩) 2 2] 27)) (.cells #[.float .f64 4607182418800017408, .float .f64 0] 26)) (.cells #[.slice (some ⟨v.heap.size + 1 + 1 + 1 + 1, 0, none⟩) 2 2] 27)) (.cells #[.float .f64 q0, .float .f64 0] 26)) (.cells #[.float .f64 0, .float .f64 q1] 26)) (.cells #[.slice (some ⟨v.heap.size + 1 + 1 + 1 + 1 + 1 + 1, 0, none⟩) 2 2, .slice (some ⟨v.heap.size + 1 + 1 + 1 + 1 + 1 + 1 + 1, 0, none⟩) 2 2] 27)) (.cells #[.float .f64 4607182418800017408] 26)) (.cells #[.slice (some ⟨v.heap.size + 1 + 1 + 1 + 1 + 1 + 1 + 1 + 1 + 1, 0, none⟩) 1 1] 27)) (.cells #[.slice (some ⟨v.heap.size + 1 + 1 + 1, 0, none⟩) 2 2, .slice none 0 0, .slice (some ⟨v.heap.size + 1 + 1 + 1 + 1 + 1, 0, none⟩) 1 1, .slice (some ⟨v.heap.size + 1 + 1 + 1 + 1 + 1 + 1 + 1 + 1, 0, none⟩) 2 2, .slice (some ⟨v.heap.size + 1 + 1 + 1 + 1 + 1 + 1 + 1 + 1 + 1 + 1, 0, none⟩) 1 1, .iface 56 (.pointer (some ⟨v.heap.size, 0, none⟩)), .float .f64 4607182418800017408] 32)) := ((((((((Fr.refl [] _).alloc _).alloc _).alloc _).alloc _).alloc _).alloc _).alloc _).alloc _
  have g1 : Fr [] (World.alloc v (.cells #[.pointer (some ⟨dA, 0, none⟩), .pointer (some ⟨dW, 0, none⟩), .pointer (some ⟨dI, 0, none⟩), .slice none 0 0] 58)) (World.alloc (World.alloc (World.alloc (World.alloc (World.alloc (World.alloc (World.alloc (World.alloc (World.alloc (World.alloc (World.alloc (World.alloc v (.cells #[.pointer (some ⟨dA, 0, none⟩), .pointer (some ⟨dW, 0, none⟩), .pointer (some ⟨dI, 0, none⟩), .slice none 0 0] 58)) (.cells #[.float .f64 a0, .float .f64 a1] 26)) (.cells #[.float .f64 a1, .float .f64 a2] 26)) (.cells #[.slice (some ⟨v.heap.size + 1, 0, none⟩) 2 2, .slice (some ⟨v.heap.size + 1 + 1, 0, none⟩) 2 2] 27)) (.cells #[.float .f64 4607182418800017408, .float .f64 0] 26)) (.cells #[.slice (some ⟨v.heap.size + 1 + 1 + 1 + 1, 0, none⟩) 2 2] 27)) (.cells #[.float .f64 q0, .float .f64 0] 26)) (.cells #[.float .f64 0, .float .f64 q1] 26)) (.cells #[.slice (some ⟨v.heap.size + 1 + 1 + 1 + 1 + 1 + 1, 0, none⟩) 2 2, .slice (some ⟨v.heap.size + 1 + 1 + 1 + 1 + 1 + 1 + 1, 0, none⟩) 2 2] 27)) (.cells #[.float .f64 4607182418800017408] 26)) (.cells #[.slice (some ⟨v.heap.size + 1 + 1 + 1 + 1 + 1 + 1 + 1 + 1 + 1, 0, none⟩) 1 1] 27)) (.cells #[.slice (some ⟨v.heap.size + 1 + 1 + 1, 0, none⟩) 2 2, .slice none 0 0, .slice (some ⟨v.heap.size + 1 + 1 + 1 + 1 + 1, 0, none⟩) 1 1, .slice (some ⟨v.heap.size + 1 + 1 + 1 + 1 + 1 + 1 + 1 + 1, 0, none⟩) 2 2, .slice (some ⟨v.heap.size + 1 + 1 + 1 + 1 + 1 + 1 + 1 + 1 + 1 + 1, 0, none⟩) 1 1, .iface 56 (.pointer (some ⟨v.heap.size, 0, none⟩)), .float .f64 4607182418800017408] 32)) := (((((((((((Fr.refl [] _).alloc _).alloc _).alloc _).alloc _).alloc _).alloc _).alloc _).alloc _).alloc _).alloc _).alloc _
  have rm := World.rowIs_alloc v #[.pointer (some ⟨dA, 0, none⟩), .pointer (some ⟨dW, 0, none⟩), .pointer (some ⟨dI, 0, none⟩), .slice none 0 0] 58 (mv dA dW dI (.slice none 0 0)) (by
    intro i hi
    match i, hi with
    | 0, _ => rfl
    | 1, _ => rfl
    | 2, _ => rfl
    | 3, _ => rfl
    | i + 4, h => exact absurd h (by simp))
  have rM := mbox (World.alloc (World.alloc (World.alloc (World.alloc (World.alloc (World.alloc (World.alloc (World.alloc (World.alloc (World.alloc (World.alloc v (.cells #[.pointer (some ⟨dA, 0, none⟩), .pointer (some ⟨dW, 0, none⟩), .pointer (some ⟨dI, 0, none⟩), .slice none 0 0] 58)) (.cells #[.float .f64 a0, .float .f64 a1] 26)) (.cells #[.float .f64 a1, .float .f64 a2] 26)) (.cells #[.slice (some ⟨v.heap.size + 1, 0, none⟩) 2 2, .slice (some ⟨v.heap.size + 1 + 1, 0, none⟩) 2 2] 27)) (.cells #[.float .f64 4607182418800017408, .float .f64 0] 26)) (.cells #[.slice (some ⟨v.heap.size + 1 + 1 + 1 + 1, 0, none⟩) 2 2] 27)) (.cells #[.float .f64 q0, .float .f64 0] 26)) (.cells #[.float .f64 0, .float .f64 q1] 26)) (.cells #[.slice (some ⟨v.heap.size + 1 + 1 + 1 + 1 + 1 + 1, 0, none⟩) 2 2, .slice (some ⟨v.heap.size + 1 + 1 + 1 + 1 + 1 + 1 + 1, 0, none⟩) 2 2] 27)) (.cells #[.float .f64 4607182418800017408] 26)) (.cells #[.slice (some ⟨v.heap.size + 1 + 1 + 1 + 1 + 1 + 1 + 1 + 1 + 1, 0, none⟩) 1 1] 27)) (v.heap.size + 1 + 1 + 1) (.slice none 0 0) (v.heap.size + 1 + 1 + 1 + 1 + 1) (v.heap.size + 1 + 1 + 1 + 1 + 1 + 1 + 1 + 1) (v.heap.size + 1 + 1 + 1 + 1 + 1 + 1 + 1 + 1 + 1 + 1) (.iface 56 (.pointer (some ⟨v.heap.size, 0, none⟩))) (.float .f64 4607182418800017408)
  rw [z11] at rM
  exact ⟨(((Fr.refl [] v).alloc _)).trans g1, g1.row rm (by simp), ⟨_, (rows22 _ _ a0 a1 a1 a2 z1).fr g4 (by simp) (by simp)⟩, ⟨_, (rows12 _ _ 4607182418800017408 0 z4).fr g6 (by simp) (by simp)⟩, ⟨_, (rows22 _ _ q0 0 0 q1 z6).fr g9 (by simp) (by simp)⟩, ⟨_, (rows11 _ _ 4607182418800017408 z9).fr g11 (by simp) (by simp)⟩, rM⟩

def sy (a b c d : Int) : Nat → Int
  | 0 => a
  | 1 => b
  | 2 => c
  | _ => d
def v2i (a b : Int) : Nat → Int
  | 0 => a
  | _ => b
theorem rep22 {a b c d : Nat} {x y z u : Int} {A : Nat} (ha : Rep a x ∧ Bd x A) (hb : Rep b y ∧ Bd y A) (hc : Rep c z ∧ Bd z A) (hd : Rep d u ∧ Bd u A) : ∀ i, i < 4 → Rep (flat 2 (f22 a b c d) i) (sy x y z u i) ∧ Bd (sy x y z u i) A := by
  intro i hi
  match i, hi with
  | 0, _ => exact ha
  | 1, _ => exact hb
  | 2, _ => exact hc
  | 3, _ => exact hd
theorem repdg {a d : Nat} {x u : Int} {A : Nat} (ha : Rep a x ∧ Bd x A) (hd : Rep d u ∧ Bd u A) : ∀ i, i < 4 → Rep (flat 2 (f22 a 0 0 d) i) (dg2 x u i) ∧ Bd (dg2 x u i) A := by
  intro i hi
  match i, hi with
  | 0, _ => exact ha
  | 1, _ => exact ⟨rep0, Bd.zero _⟩
  | 2, _ => exact ⟨rep0, Bd.zero _⟩
  | 3, _ => exact hd
theorem diag2 {a d : Nat} (ha : Good a) (hd : Good d) : Diag 2 (flat 2 (f22 a 0 0 d)) := .inr ⟨rfl, rfl, rfl, ha, hd⟩
theorem pnew_eq {g : Nat → Nat} {za : Nat → Int} {y0 y1 u0 u1 : Int} (h : PNew g za (dg2 y0 y1) (dg2 u0 u1)) : Rep (g 0) (za 0 * y0 * za 0 + za 1 * y1 * za 1 + u0) ∧ Rep (g 1) (za 0 * y0 * za 2 + za 1 * y1 * za 3) ∧ Rep (g 2) (za 2 * y0 * za 0 + za 3 * y1 * za 1) ∧ Rep (g 3) (za 2 * y0 * za 2 + za 3 * y1 * za 3 + u1) := by
  obtain ⟨h0, h1, h2, h3⟩ := h
  simp only [sz, tz, dg2, Int.mul_zero, Int.add_zero, Int.zero_add] at h0 h1 h2 h3
  refine ⟨?_, ?_, ?_, ?_⟩
  · rw [Int.mul_comm (za 0) (za 0 * y0), Int.mul_comm (za 1) (za 1 * y1)] at h0
    exact h0
  · rw [Int.mul_comm (za 2) (za 0 * y0), Int.mul_comm (za 3) (za 1 * y1)] at h1
    exact h1
  · rw [show za 2 * (za 0 * y0) = za 2 * y0 * za 0 by rw [Int.mul_comm (za 0) y0, Int.mul_assoc], show za 3 * (za 1 * y1) = za 3 * y1 * za 1 by rw [Int.mul_comm (za 1) y1, Int.mul_assoc]] at h2
    exact h2
  · rw [Int.mul_comm (za 2) (za 2 * y0), Int.mul_comm (za 3) (za 3 * y1)] at h3
    exact h3
theorem prod2 {d a : Nat} {x y : Int} (hd : Rep d x ∧ Bd x 255) (ha : Rep a y ∧ Bd y 128) : ∃ m, Ieee.double.mul d a = some m ∧ Rep m (y * x) ∧ Bd (y * x) 32640 := by
  have b := ha.2.mul hd.2
  have b' := hd.2.mul ha.2
  obtain ⟨m, h, r⟩ := mul_rep hd.1 ha.1 (b'.small (by omega))
  rw [Int.mul_comm] at r
  exact ⟨m, h, r, b⟩
theorem dotw {m n x y : Nat} {a b c d : Int} (hm : Rep m a ∧ Bd a 32640) (hx : Rep x c ∧ Bd c 128) (hn : Rep n b ∧ Bd b 32640) (hy : Rep y d ∧ Bd d 128) : ∃ p q r, Ieee.double.mul m x = some p ∧ Ieee.double.mul n y = some q ∧ Ieee.double.add p q = some r ∧ Rep r (a * c + b * d) := by
  have b1 := hm.2.mul hx.2
  have b2 := hn.2.mul hy.2
  obtain ⟨p, h1, r1⟩ := mul_rep hm.1 hx.1 (b1.small (by omega))
  obtain ⟨q, h2, r2⟩ := mul_rep hn.1 hy.1 (b2.small (by omega))
  obtain ⟨r, h3, r3⟩ := add_rep r1 r2 ((b1.add b2).small (by omega))
  exact ⟨p, q, r, h1, h2, h3, r3⟩
theorem fin1_one : Fin1 4607182418800017408 := fin_rep rep_one

theorem row4 (w : World) (a b c d : Nat) : (w.alloc (.cells #[.float .f64 a, .float .f64 b, .float .f64 c, .float .f64 d] 26)).rowIs w.heap.size 26 4 (fv (g4 a b c d)) := World.rowIs_alloc w #[.float .f64 a, .float .f64 b, .float .f64 c, .float .f64 d] 26 (fv (g4 a b c d)) (by
  intro i hi
  match i, hi with
  | 0, _ => rfl
  | 1, _ => rfl
  | 2, _ => rfl
  | 3, _ => rfl
  | i + 4, h => exact absurd h (by simp))

set_option maxRecDepth 100000 in
set_option maxHeartbeats 8000000 in
theorem law4_words (w : World) (i0 i1 i2 j0 j1 k0 k1 l0 l1 id : Int) (a0 a1 a2 w0 w1 x0 x1 p0 p1 dt q0 q1 : Nat)
    (ca0 : ∀ w, (convert 22 26 (.int .i8 i0)).run Ybaf.prog w = .ok (.float .f64 a0) w) (ca1 : ∀ w, (convert 22 26 (.int .i8 i1)).run Ybaf.prog w = .ok (.float .f64 a1) w) (ca2 : ∀ w, (convert 22 26 (.int .i8 i2)).run Ybaf.prog w = .ok (.float .f64 a2) w)
    (cw0 : ∀ w, (convert 5 26 (.int .u8 j0)).run Ybaf.prog w = .ok (.float .f64 w0) w) (cw1 : ∀ w, (convert 5 26 (.int .u8 j1)).run Ybaf.prog w = .ok (.float .f64 w1) w)
    (cx0 : ∀ w, (convert 22 26 (.int .i8 k0)).run Ybaf.prog w = .ok (.float .f64 x0) w) (cx1 : ∀ w, (convert 22 26 (.int .i8 k1)).run Ybaf.prog w = .ok (.float .f64 x1) w)
    (cp0 : ∀ w, (convert 5 26 (.int .u8 l0)).run Ybaf.prog w = .ok (.float .f64 p0) w) (cp1 : ∀ w, (convert 5 26 (.int .u8 l1)).run Ybaf.prog w = .ok (.float .f64 p1) w)
    (cd : ∀ w, (convert 5 26 (.int .u8 id)).run Ybaf.prog w = .ok (.float .f64 dt) w)
    (ra0 : Rep a0 i0 ∧ Bd i0 128) (ra1 : Rep a1 i1 ∧ Bd i1 128) (ra2 : Rep a2 i2 ∧ Bd i2 128) (rw0 : Rep w0 j0 ∧ Bd j0 255) (rw1 : Rep w1 j1 ∧ Bd j1 255) (rx0 : Rep x0 k0 ∧ Bd k0 128) (rx1 : Rep x1 k1 ∧ Bd k1 128) (rp0 : Rep p0 l0 ∧ Bd l0 255) (rp1 : Rep p1 l1 ∧ Bd l1 255) (rd : Rep dt id ∧ Bd id 255) (hd : 0 ≤ id)
    (mq0 : Ieee.double.mul w0 w0 = some q0) (mq1 : Ieee.double.mul w1 w1 = some q1) (rq0 : Rep q0 (j0 * j0)) (rq1 : Rep q1 (j1 * j1)) (gq0 : Good q0) (gq1 : Good q1) (gp0 : Good p0) (gp1 : Good p1) :
    Calls Ybaf.prog 4 #[.agg #[.int .i8 i0, .int .i8 i1, .int .i8 i2], .agg #[.int .u8 j0, .int .u8 j1], .agg #[.int .i8 k0, .int .i8 k1], .agg #[.int .u8 l0, .int .u8 l1], .int .u8 id] w fun e w' => e = .returned (.bool true) ∧ Fr [] w w' := by
  have hn := neq_nil35
  have yq0 := mul_run mq0
  have yq1 := mul_run mq1
  have H := hide (And.intro ra0 (And.intro ra1 (And.intro ra2 (And.intro rw0 (And.intro rw1 (And.intro rx0 (And.intro rx1 (And.intro rp0 (And.intro rp1 (And.intro rd (And.intro hd (And.intro rq0 (And.intro rq1 (And.intro gq0 (And.intro gq1 (And.intro gp0 gp1))))))))))))))))
  have fa0 := hide (fin_rep ra0.1)
  have fa1 := hide (fin_rep ra1.1)
  have fa2 := hide (fin_rep ra2.1)
  have fw0 := hide (fin_rep rw0.1)
  have fw1 := hide (fin_rep rw1.1)
  have f0 := hide (fin_rep rep0)
  have f1 := hide (fin_rep rep_one)
  obtain ⟨m00, t1, rm00⟩ := prod2 rd ra0
  obtain ⟨m01, t2, rm01⟩ := prod2 rd ra1
  obtain ⟨m11, t3, rm11⟩ := prod2 rd ra2
  obtain ⟨n0, n1, e0, t4, t5, t6, re0⟩ := dotw rm00 rx0 rm01 rx1
  obtain ⟨n2, n3, e1, t7, t8, t9, re1⟩ := dotw rm01 rx0 rm11 rx1
  have y1 := mul_run t1
  have y2 := mul_run t2
  have y3 := mul_run t3
  have y4 := mul_run t4
  have y5 := mul_run t5
  have y6 := add_run t6
  have y7 := mul_run t7
  have y8 := mul_run t8
  have y9 := add_run t9
  have HE := hide (And.intro rm00 (And.intro rm01 (And.intro rm11 (And.intro re0 re1))))
  clear t1 t2 t3 t4 t5 t6 t7 t8 t9 rm00 rm01 rm11 re0 re1
  clear ra0 ra1 ra2 rw0 rw1 rx0 rx1 rp0 rp1 rd hd rq0 rq1 gq0 gq1 gp0 gp1 mq0 mq1
  go_enter Ybaf.func4, Ybaf.ntmps4
  go_wp2
  have xr := hide ((cells2 ((w.alloc (.cells #[.int .i8 i0, .int .i8 i1, .int .i8 i2] 53)).alloc (.cells #[.int .u8 j0, .int .u8 j1] 25)) (.int .i8 k0) (.int .i8 k1) 24).alloc (.cells #[.int .u8 l0, .int .u8 l1] 25))
  have pr := hide (cells2 (((w.alloc (.cells #[.int .i8 i0, .int .i8 i1, .int .i8 i2] 53)).alloc (.cells #[.int .u8 j0, .int .u8 j1] 25)).alloc (.cells #[.int .i8 k0, .int .i8 k1] 24)) (.int .u8 l0) (.int .u8 l1) 25)
  have fr0 := hide (((((Fr.refl [] w).alloc (.cells #[.int .i8 i0, .int .i8 i1, .int .i8 i2] 53)).alloc (.cells #[.int .u8 j0, .int .u8 j1] 25)).alloc (.cells #[.int .i8 k0, .int .i8 k1] 24)).alloc (.cells #[.int .u8 l0, .int .u8 l1] 25))
  simp only [size_al] at xr pr
  go_quiet (fail)
  go_wp2
  go_quiet (fail)
  generalize (((w.alloc (.cells #[.int .i8 i0, .int .i8 i1, .int .i8 i2] 53)).alloc (.cells #[.int .u8 j0, .int .u8 j1] 25)).alloc (.cells #[.int .i8 k0, .int .i8 k1] 24)).alloc (.cells #[.int .u8 l0, .int .u8 l1] 25) = W0 at *
  generalize w.heap.size + 1 + 1 + 1 = bP at *
  generalize w.heap.size + 1 + 1 = bX at *
  go_wp2_with fail
  refine (fromRows_any _ (W0.heap.size + 1 + 1) 2 2 (fun i => W0.heap.size + i) (f22 a0 a1 a1 a2) ⟨.inr rfl, .inr rfl⟩ (rows22 (W0.drewN _) W0.heap.size a0 a1 a1 a2 rfl) (fin22 (unhide fa0) (unhide fa1) (unhide fa1) (unhide fa2))).mono ?_
  rintro e v1 ⟨rfl, m1, f1', s1⟩
  simp only [size_al, size_dr] at m1 ⊢
  have fr1 := hide (((((unhide fr0).drewN _).alloc _).alloc _).alloc _ |>.trans f1')
  have gr1 := hide ((((((Fr.refl [] W0).drewN _).alloc _).alloc _).alloc _).trans f1')
  have xr1 := hide ((unhide gr1).row (unhide xr) (by simp))
  have pr1 := hide ((unhide gr1).row (unhide pr) (by simp))
  have M1 := hide m1
  clear m1 f1' s1 gr1 xr pr fr0
  generalize W0.heap.size + 1 + 1 + 1 + 1 = dA at *
  generalize W0.heap.size + 1 + 1 + 1 = bA at *
  go_wp2_with fail
  refine (fromRows_any _ (v1.heap.size + 1 + 1) 2 2 (fun i => v1.heap.size + i) (f22 w0 0 0 w1) ⟨.inr rfl, .inr rfl⟩ (rows22 v1 v1.heap.size w0 0 0 w1 rfl) (fin22 (unhide fw0) (unhide f0) (unhide f0) (unhide fw1))).mono ?_
  rintro e v2 ⟨rfl, m2, f2', s2⟩
  simp only [size_al] at m2 ⊢
  have gr2 := hide (((((Fr.refl [] v1).alloc _).alloc _).alloc _).trans f2')
  have fr2 := hide ((unhide fr1).trans (unhide gr2))
  have xr2 := hide ((unhide gr2).row (unhide xr1) (by simp))
  have pr2 := hide ((unhide gr2).row (unhide pr1) (by simp))
  have M2 := hide m2
  clear m2 f2' s2 xr1 pr1 fr1
  generalize v1.heap.size + 1 + 1 + 1 + 1 = dW at *
  generalize v1.heap.size + 1 + 1 + 1 = bW at *
  have M1' := hide ((unhide M1).fr (unhide gr2) (by simp) (by simp))
  clear M1
  go_wp2_with fail
  refine (fromRows_any _ (v2.heap.size + 1 + 1) 2 2 (fun i => v2.heap.size + i) (f22 4607182418800017408 0 0 4607182418800017408) ⟨.inr rfl, .inr rfl⟩ (rows22 v2 v2.heap.size 4607182418800017408 0 0 4607182418800017408 rfl) (fin22 (unhide f1) (unhide f0) (unhide f0) (unhide f1))).mono ?_
  rintro e v3 ⟨rfl, m3, f3', s3⟩
  simp only [size_al] at m3 ⊢
  have gr3 := hide (((((Fr.refl [] v2).alloc _).alloc _).alloc _).trans f3')
  have fr3 := hide ((unhide fr2).trans (unhide gr3))
  have xr3 := hide ((unhide gr3).row (unhide xr2) (by simp))
  have pr3 := hide ((unhide gr3).row (unhide pr2) (by simp))
  have M3 := hide m3
  clear m3 f3' s3 xr2 pr2 fr2
  generalize v2.heap.size + 1 + 1 + 1 + 1 = dI at *
  generalize v2.heap.size + 1 + 1 + 1 = bI at *
  have MA := hide ((unhide M1').fr (unhide gr3) (by simp) (by simp))
  have MW := hide ((unhide M2).fr (unhide gr3) (by simp) (by simp))
  clear M1' M2 gr2 gr3
  go_wp2
  have HL := hide (model_laid v3 dA dW dI a0 a1 a2 q0 q1)
  have xb : bX < v3.heap.size := (unhide xr3).lt
  have pb : bP < v3.heap.size := (unhide pr3).lt
  have hmbw : w.heap.size ≤ v3.heap.size := (unhide fr3).size
  generalize (World.alloc (World.alloc (World.alloc (World.alloc (World.alloc (World.alloc (World.alloc (World.alloc (World.alloc (World.alloc (World.alloc (World.alloc v3 (.cells #[.pointer (some ⟨dA, 0, none⟩), .pointer (some ⟨dW, 0, none⟩), .pointer (some ⟨dI, 0, none⟩), .slice none 0 0] 58)) (.cells #[.float .f64 a0, .float .f64 a1] 26)) (.cells #[.float .f64 a1, .float .f64 a2] 26)) (.cells #[.slice (some ⟨v3.heap.size + 1, 0, none⟩) 2 2, .slice (some ⟨v3.heap.size + 1 + 1, 0, none⟩) 2 2] 27)) (.cells #[.float .f64 4607182418800017408, .float .f64 0] 26)) (.cells #[.slice (some ⟨v3.heap.size + 1 + 1 + 1 + 1, 0, none⟩) 2 2] 27)) (.cells #[.float .f64 q0, .float .f64 0] 26)) (.cells #[.float .f64 0, .float .f64 q1] 26)) (.cells #[.slice (some ⟨v3.heap.size + 1 + 1 + 1 + 1 + 1 + 1, 0, none⟩) 2 2, .slice (some ⟨v3.heap.size + 1 + 1 + 1 + 1 + 1 + 1 + 1, 0, none⟩) 2 2] 27)) (.cells #[.float .f64 4607182418800017408] 26)) (.cells #[.slice (some ⟨v3.heap.size + 1 + 1 + 1 + 1 + 1 + 1 + 1 + 1 + 1, 0, none⟩) 1 1] 27)) (.cells #[.slice (some ⟨v3.heap.size + 1 + 1 + 1, 0, none⟩) 2 2, .slice none 0 0, .slice (some ⟨v3.heap.size + 1 + 1 + 1 + 1 + 1, 0, none⟩) 1 1, .slice (some ⟨v3.heap.size + 1 + 1 + 1 + 1 + 1 + 1 + 1 + 1, 0, none⟩) 2 2, .slice (some ⟨v3.heap.size + 1 + 1 + 1 + 1 + 1 + 1 + 1 + 1 + 1 + 1, 0, none⟩) 1 1, .iface 56 (.pointer (some ⟨v3.heap.size, 0, none⟩)), .float .f64 4607182418800017408] 32)) = Wm at *
  generalize hV11 : v3.heap.size + 1 + 1 + 1 + 1 + 1 + 1 + 1 + 1 + 1 + 1 + 1 = bM at *
  generalize hV10 : v3.heap.size + 1 + 1 + 1 + 1 + 1 + 1 + 1 + 1 + 1 + 1 = oR at *
  generalize hV8 : v3.heap.size + 1 + 1 + 1 + 1 + 1 + 1 + 1 + 1 = oQ at *
  generalize hV5 : v3.heap.size + 1 + 1 + 1 + 1 + 1 = oH at *
  generalize hV3 : v3.heap.size + 1 + 1 + 1 = oF at *
  generalize hV0 : v3.heap.size = mb at *
  clear hV11 hV10 hV8 hV5 hV3 hV0 xb pb
  obtain ⟨grm, rmo, ⟨rF, RF⟩, ⟨rH, RH⟩, ⟨rQ, RQ⟩, ⟨rR, RR⟩, rM⟩ := unhide HL
  clear HL
  have frm := hide ((unhide fr3).trans grm)
  have xrm := grm.row (unhide xr3) (by simp)
  have prm := grm.row (unhide pr3) (by simp)
  have MAm := hide ((unhide MA).fr grm (by simp) (by simp))
  have MWm := hide ((unhide MW).fr grm (by simp) (by simp))
  have MIm := hide ((unhide M3).fr grm (by simp) (by simp))
  have ux0 : Wm.cell? ⟨bX, 0, none⟩ = some (.int .i8 k0) := xrm.cell (i := 0) (by omega)
  have ux1 : Wm.cell? ⟨bX, 1, none⟩ = some (.int .i8 k1) := xrm.cell (i := 1) (by omega)
  have up0 : Wm.cell? ⟨bP, 0, none⟩ = some (.int .u8 l0) := prm.cell (i := 0) (by omega)
  have up1 : Wm.cell? ⟨bP, 1, none⟩ = some (.int .u8 l1) := prm.cell (i := 1) (by omega)
  have um0 : ∀ n o, ((Wm.drewN n).alloc o).cell? ⟨bM, 0, none⟩ = some (.slice (some ⟨oF, 0, none⟩) 2 2) := fun n o => ((rowIs_drewN rM n).alloc o).cell (i := 0) (by omega)
  have um1 : ∀ n o, ((Wm.drewN n).alloc o).cell? ⟨bM, 1, none⟩ = some (.slice none 0 0) := fun n o => ((rowIs_drewN rM n).alloc o).cell (i := 1) (by omega)
  have um2 : ∀ n o, ((Wm.drewN n).alloc o).cell? ⟨bM, 2, none⟩ = some (.slice (some ⟨oH, 0, none⟩) 1 1) := fun n o => ((rowIs_drewN rM n).alloc o).cell (i := 2) (by omega)
  have um3 : ∀ n o, ((Wm.drewN n).alloc o).cell? ⟨bM, 3, none⟩ = some (.slice (some ⟨oQ, 0, none⟩) 2 2) := fun n o => ((rowIs_drewN rM n).alloc o).cell (i := 3) (by omega)
  have um4 : ∀ n o, ((Wm.drewN n).alloc o).cell? ⟨bM, 4, none⟩ = some (.slice (some ⟨oR, 0, none⟩) 1 1) := fun n o => ((rowIs_drewN rM n).alloc o).cell (i := 4) (by omega)
  have um5 : ∀ n o, ((Wm.drewN n).alloc o).cell? ⟨bM, 5, none⟩ = some (.iface 56 (.pointer (some ⟨mb, 0, none⟩))) := fun n o => ((rowIs_drewN rM n).alloc o).cell (i := 5) (by omega)
  have um6 : ∀ n o, ((Wm.drewN n).alloc o).cell? ⟨bM, 6, none⟩ = some (.float .f64 4607182418800017408) := fun n o => ((rowIs_drewN rM n).alloc o).cell (i := 6) (by omega)
  have HI := hide (And.intro rmo (And.intro RF (And.intro RH (And.intro RQ RR))))
  clear grm xrm prm rmo RF RH RQ RR rM fr3 xr3 pr3 MA MW M3
  go_quiet (fail)
  go_wp2_with fail
  have frn : Hid (Fr [] Wm (((((Wm.drewN nq).alloc (.cells #[.float .f64 x0, .float .f64 x1] 26)).alloc (.cells #[.float .f64 p0, .float .f64 0] 26)).alloc (.cells #[.float .f64 0, .float .f64 p1] 26)).alloc (.cells #[.slice (some ⟨Wm.heap.size + 1, 0, none⟩) 2 2, .slice (some ⟨Wm.heap.size + 1 + 1, 0, none⟩) 2 2] 27))) := hide (((((Fr.refl [] Wm).drewN nq).alloc _).alloc _).alloc _ |>.alloc _)
  have RP := hide (rows22 ((Wm.drewN nq).alloc (.cells #[.float .f64 x0, .float .f64 x1] 26)) (Wm.heap.size + 1) p0 0 0 p1 (by rw [size_al]; rfl))
  have XR : Hid (World.rowIs (((((Wm.drewN nq).alloc (.cells #[.float .f64 x0, .float .f64 x1] 26)).alloc (.cells #[.float .f64 p0, .float .f64 0] 26)).alloc (.cells #[.float .f64 0, .float .f64 p1] 26)).alloc (.cells #[.slice (some ⟨Wm.heap.size + 1, 0, none⟩) 2 2, .slice (some ⟨Wm.heap.size + 1 + 1, 0, none⟩) 2 2] 27)) Wm.heap.size 26 2 (fv (Wk.v2 x0 x1))) := hide ((((row2 (Wm.drewN nq) x0 x1).alloc _).alloc _).alloc _)
  generalize ((((Wm.drewN nq).alloc (.cells #[.float .f64 x0, .float .f64 x1] 26)).alloc (.cells #[.float .f64 p0, .float .f64 0] 26)).alloc (.cells #[.float .f64 0, .float .f64 p1] 26)).alloc (.cells #[.slice (some ⟨Wm.heap.size + 1, 0, none⟩) 2 2, .slice (some ⟨Wm.heap.size + 1 + 1, 0, none⟩) 2 2] 27) = Wn at *
  generalize (fun i => Wm.heap.size + 1 + i) = rP at *
  generalize Wm.heap.size + 1 + 1 + 1 = oP at *
  generalize Wm.heap.size = xb at *
  clear ux0 ux1 up0 up1 um0 um1 um2 um3 um4 um5 um6
  obtain ⟨ra0, ra1, ra2, rw0, rw1, rx0, rx1, rp0, rp1, rd, hd, rq0, rq1, gq0, gq1, gp0, gp1⟩ := unhide H
  have hmin : MIn Wn oF oH oQ oR rF rH rQ rR (f22 a0 a1 a1 a2) (fun _ j => Wk.v2 4607182418800017408 0 j) (f22 q0 0 0 q1) (fun _ _ => 4607182418800017408) :=
    { f := (unhide HI).2.1.fr (unhide frn) (by simp) (by simp), h := (unhide HI).2.2.1.fr (unhide frn) (by simp) (by simp), q := (unhide HI).2.2.2.1.fr (unhide frn) (by simp) (by simp), r := (unhide HI).2.2.2.2.fr (unhide frn) (by simp) (by simp)
      ff := fin22 (unhide fa0) (unhide fa1) (unhide fa1) (unhide fa2), fh := fun i hi j hj => by match j, hj with
        | 0, _ => exact fin1_one
        | 1, _ => exact fin_rep rep0
      fq := fin22 (fin_rep rq0) (unhide f0) (unhide f0) (fin_rep rq1), fr := fun _ _ _ _ => fin1_one, dq := diag2 gq0 gq1, dr := .inl ⟨rfl, good_one⟩ }
  have hmoin : MoIn Wn mb dA bA dW bW dI bI 4607182418800017408 (flat 2 (f22 a0 a1 a1 a2)) (flat 2 (f22 w0 0 0 w1)) (flat 2 (f22 4607182418800017408 0 0 4607182418800017408)) (f22 a0 a1 a1 a2) (f22 q0 0 0 q1) (sy i0 i1 i1 i2) j0 j1 1 128 255 1 :=
    { mo := (unhide frn).row (unhide HI).1 (by simp), ma := (unhide MAm).fr (unhide frn) (by simp) (by simp), mw := (unhide MWm).fr (unhide frn) (by simp) (by simp), mi := (unhide MIm).fr (unhide frn) (by simp) (by simp)
      ra := rep22 ra0 ra1 ra1 ra2, rw := repdg rw0 rw1, ri := repdg ⟨rep_one, by unfold Bd; decide⟩ ⟨rep_one, by unfold Bd; decide⟩, rt := ⟨rep_one, by unfold Bd; decide⟩, hA := by decide, hW := by decide, hWW := by decide
      rF := fun i hi => by match i, hi with
        | 0, _ => simpa [ft, sy] using (rep22 ra0 ra1 ra1 ra2 0 (by omega)).1
        | 1, _ => simpa [ft, sy] using (rep22 ra0 ra1 ra1 ra2 1 (by omega)).1
        | 2, _ => simpa [ft, sy] using (rep22 ra0 ra1 ra1 ra2 2 (by omega)).1
        | 3, _ => simpa [ft, sy] using (rep22 ra0 ra1 ra1 ra2 3 (by omega)).1
      rQ := fun i hi => (repdg (A := 65025) ⟨rq0, rw0.2.mul rw0.2⟩ ⟨rq1, rw1.2.mul rw1.2⟩ i hi).1 }
  have hc := new_m Wn oF oH oQ oR oP xb 2 rF rH rQ rR rP (f22 a0 a1 a1 a2) (fun _ j => Wk.v2 4607182418800017408 0 j) (f22 q0 0 0 q1) (fun _ _ => 4607182418800017408) (f22 p0 0 0 p1) (Wk.v2 x0 x1) mb dA bA dW bW dI bI 4607182418800017408 (flat 2 (f22 a0 a1 a1 a2)) (flat 2 (f22 w0 0 0 w1)) (flat 2 (f22 4607182418800017408 0 0 4607182418800017408)) (sy i0 i1 i1 i2) j0 j1 1 128 255 1 hmin hmoin (unhide RP) (fin22 (fin_rep rp0.1) (unhide f0) (unhide f0) (fin_rep rp1.1)) (diag2 gp0 gp1) (unhide XR) (fun i hi => by match i, hi with
    | 0, _ => exact fin_rep rx0.1
    | 1, _ => exact fin_rep rx1.1)
  have hxm : xb ≠ mb := row_ne (unhide XR) hmoin.mo (by decide)
  have hxl := (unhide XR).lt
  have frw := hide ((unhide frm).trans (unhide frn))
  clear ra0 ra1 ra2 rw0 rw1 rx0 rx1 rp0 rp1 rd hd rq0 rq1 gq0 gq1 gp0 gp1 hmin hmoin HI MAm MWm MIm frm frn RP
  unfold mval at hc
  refine hc.mono ?_
  rintro e wf ⟨M, fb, F, bx, cx, bo, bd, bt, g, lc, gF, gW, gQ, rfl, fA, hrow, hfb, hM, HA⟩
  clear hc
  have cs5 := hrow.cell (i := 5) (by omega)
  rw [HA.nf.c5] at cs5
  have HHA := hide HA
  have Hrow := hide hrow
  have HfA := hide fA
  have hrl := hrow.lt
  clear HA hrow fA
  go_wp2_with fail
  refine (record_none wf fb F bx cx (unhide Hrow) (unhide HHA).nf.x (unhide HHA).nf.c1).mono ?_
  rintro e w5 ⟨rfl, f5, s5, row5, rec5⟩
  have HA5 := hide ((unhide HHA).fr f5 (unhide Hrow) hfb)
  have Hf5 := hide f5
  have Hrow5 := hide row5
  have Hrec5 := hide rec5
  clear f5 row5 rec5 cs5 HHA Hrow s5
  go_wp2_with fail
  obtain ⟨ra0, ra1, ra2, rw0, rw1, rx0, rx1, rp0, rp1, rd, hd, rq0, rq1, gq0, gq1, gp0, gp1⟩ := unhide H
  have hg1 := (unhide HA5).hg
  have hg2 := (unhide HA5).hM
  have hg3 := (unhide HA5).nf.g2
  have hg4 := (unhide HA5).nf.g3
  have hg5 := (unhide HA5).nf.g4
  have hc := pred_m w5 (Wn.heap.size + 1) M mb dA bA dW bW dI bI 4607182418800017408 dt fb wf.heap.size (flat 2 (f22 a0 a1 a1 a2)) (flat 2 (f22 w0 0 0 w1)) (flat 2 (f22 4607182418800017408 0 0 4607182418800017408)) (Wk.v2 x0 x1) (f22 p0 0 0 p1) F bx cx bo bd bt g lc gF gW gQ (sy i0 i1 i1 i2) (dg2 l0 l1) (v2i k0 k1) j0 j1 id (unhide HA5) (unhide Hrow5) (unhide Hrec5) hfb (by omega) (by omega)
    (rep22 ra0 ra1 ra1 ra2) (repdg rw0 rw1) (repdg ⟨rep_one, by unfold Bd; decide⟩ ⟨rep_one, by unfold Bd; decide⟩) rd (later rd.1 hd) (repdg rp0 rp1) (fun i hi => by match i, hi with
      | 0, _ => exact rx0
      | 1, _ => exact rx1)
  clear ra0 ra1 ra2 rw0 rw1 rx0 rx1 rp0 rp1 rd hd rq0 rq1 gq0 gq1 gp0 gp1
  refine hc.mono ?_
  rintro e w6 ⟨rfl, f6, row6, ⟨gx, hx6, rx6⟩, ⟨gp, mp6, rp6⟩, ⟨b1, c1, b2, c2, b3, c3, rec6, vx6, vp6, vt6⟩, g2, lc2, mo6, log6⟩
  clear hc
  have hws := (unhide frw).size
  have xrf := (unhide HfA).row (unhide XR) (by simpa using hxm)
  have xr5 := (unhide Hf5).row xrf (by simp only [List.mem_singleton]; omega)
  have xr6 := hide (f6.row xr5 (by simp only [List.mem_cons, List.not_mem_nil, or_false, not_or]; omega))
  have frw6 := hide ((((unhide frw).new (unhide HfA) (by intro x hx; simp only [List.mem_singleton] at hx; right; omega)).new (unhide Hf5) (by intro x hx; simp only [List.mem_singleton] at hx; right; omega)).new f6 (by intro x hx; simp only [List.mem_cons, List.not_mem_nil, or_false] at hx; right; omega))
  have H6 := hide (And.intro row6 (And.intro hx6 (And.intro rx6 (And.intro mp6 (And.intro (pnew_eq rp6) (And.intro rec6 (And.intro vx6 (And.intro vp6 (And.intro vt6 (And.intro mo6 log6))))))))))
  clear f6 row6 hx6 rx6 mp6 rp6 rec6 vx6 vp6 vt6 mo6 log6 xrf xr5 HfA Hf5 XR frw HA5 Hrow5 Hrec5 hg1 hg2 hg3 hg4 hg5
  go_wp2
  have RR := rows22 w6 w6.heap.size m00 m01 m01 m11 rfl
  have fr7 := hide ((((Fr.refl [] w6).alloc (.cells #[.float .f64 m00, .float .f64 m01] 26)).alloc (.cells #[.float .f64 m01, .float .f64 m11] 26)).alloc (.cells #[.slice (some ⟨w6.heap.size, 0, none⟩) 2 2, .slice (some ⟨w6.heap.size + 1, 0, none⟩) 2 2] 27))
  generalize ((w6.alloc (.cells #[.float .f64 m00, .float .f64 m01] 26)).alloc (.cells #[.float .f64 m01, .float .f64 m11] 26)).alloc (.cells #[.slice (some ⟨w6.heap.size, 0, none⟩) 2 2, .slice (some ⟨w6.heap.size + 1, 0, none⟩) 2 2] 27) = W7 at *
  have z0 : W7.cell? ⟨w6.heap.size + 1 + 1, 0, none⟩ = some (.slice (some ⟨w6.heap.size, 0, none⟩) 2 2) := RR.outer.cell (i := 0) (by omega)
  have z1 : W7.cell? ⟨w6.heap.size + 1 + 1, 1, none⟩ = some (.slice (some ⟨w6.heap.size + 1, 0, none⟩) 2 2) := RR.outer.cell (i := 1) (by omega)
  have d00 : W7.cell? ⟨w6.heap.size, 0, none⟩ = some (.float .f64 m00) := (RR.row 0 (by omega)).cell (i := 0) (by omega)
  have d01 : W7.cell? ⟨w6.heap.size, 1, none⟩ = some (.float .f64 m01) := (RR.row 0 (by omega)).cell (i := 1) (by omega)
  have d10 : W7.cell? ⟨w6.heap.size + 1, 0, none⟩ = some (.float .f64 m01) := (RR.row 1 (by omega)).cell (i := 0) (by omega)
  have d11 : W7.cell? ⟨w6.heap.size + 1, 1, none⟩ = some (.float .f64 m11) := (RR.row 1 (by omega)).cell (i := 1) (by omega)
  have ux0 : W7.cell? ⟨xb, 0, none⟩ = some (.float .f64 x0) := ((unhide fr7).row (unhide xr6) (by simp)).cell (i := 0) (by omega)
  have ux1 : W7.cell? ⟨xb, 1, none⟩ = some (.float .f64 x1) := ((unhide fr7).row (unhide xr6) (by simp)).cell (i := 1) (by omega)
  have HRR := hide RR
  clear RR
  generalize w6.heap.size + 1 + 1 = on at *
  generalize hr1 : w6.heap.size + 1 = r1n at *
  have Hr1 := hide hr1
  clear hr1
  go_region_held3 (fun W => W.cell? ⟨on, 0, none⟩ = some (.slice (some ⟨w6.heap.size, 0, none⟩) 2 2) ∧ W.cell? ⟨on, 1, none⟩ = some (.slice (some ⟨r1n, 0, none⟩) 2 2) ∧ W.cell? ⟨w6.heap.size, 0, none⟩ = some (.float .f64 m00) ∧ W.cell? ⟨w6.heap.size, 1, none⟩ = some (.float .f64 m01) ∧ W.cell? ⟨r1n, 0, none⟩ = some (.float .f64 m01) ∧ W.cell? ⟨r1n, 1, none⟩ = some (.float .f64 m11) ∧ W.cell? ⟨xb, 0, none⟩ = some (.float .f64 x0) ∧ W.cell? ⟨xb, 1, none⟩ = some (.float .f64 x1)) (go_keep) (fail)
  have re := row2 W7 e0 e1
  have fr8 : Hid (Fr [] w6 (W7.alloc (.cells #[.float .f64 e0, .float .f64 e1] 26)).drew) := hide (((unhide fr7).alloc _).drew)
  have re8 : Hid (World.rowIs (W7.alloc (.cells #[.float .f64 e0, .float .f64 e1] 26)).drew W7.heap.size 26 2 (fv (Wk.v2 e0 e1))) := hide re
  have f78 : Hid (Fr [] W7 (W7.alloc (.cells #[.float .f64 e0, .float .f64 e1] 26)).drew) := hide (((Fr.refl [] W7).alloc _).drew)
  clear re z0 z1 d00 d01 d10 d11 ux0 ux1
  generalize (W7.alloc (.cells #[.float .f64 e0, .float .f64 e1] 26)).drew = W8 at *
  generalize W7.heap.size = en at *
  obtain ⟨row6, hx6, rx6, mp6, rp6, rec6, vx6, vp6, vt6, mo6, log6⟩ := unhide H6
  have row8 := (unhide fr8).row row6 (by simp)
  have k6 : W8.cell? ⟨fb, 6, none⟩ = some (.slice (some ⟨bo, 0, none⟩) 2 2) := row8.cell (i := 6) (by omega)
  have hx8 := (unhide fr8).row hx6 (by simp)
  have o8 : ∀ i, i < 2 → Ieee.double.order (gx i) (Wk.v2 e0 e1 i) = some .eq := fun i hi => by
    match i, hi with
    | 0, _ =>
      have h := rx6 0 (by omega)
      simp only [ft, sy, v2i, Int.add_zero, Nat.zero_mul, Nat.zero_add] at h
      exact rep_ord h (unhide HE).2.2.2.1
    | 1, _ =>
      have h := rx6 1 (by omega)
      simp only [ft, sy, v2i, Int.add_zero, Nat.one_mul, Nat.reduceAdd] at h
      exact rep_ord h (unhide HE).2.2.2.2
  have A8 := hide (aeq_true W8 bo 0 2 2 en 0 2 gx (Wk.v2 e0 e1) (by omega) (fun i hi => by rw [Nat.zero_add]; exact hx8.cell hi) (fun i hi => by rw [Nat.zero_add]; exact (unhide re8).cell hi) o8)
  clear row6 hx6 rx6 mp6 rp6 rec6 vx6 vp6 vt6 mo6 log6 row8 hx8 o8
  go_wp2_with fail
  refine (unhide A8).mono ?_
  rintro e w9 ⟨rfl, q9, rfl⟩
  clear A8 k6
  have fr9 : Hid (Fr [] w6 (W8.drewN q9)) := hide ((unhide fr8).drewN q9)
  have f79 : Hid (Fr [] W7 (W8.drewN q9)) := hide ((unhide f78).drewN q9)
  clear fr8 f78 re8
  generalize W8.drewN q9 = W9 at *
  have k7 : W9.cell? ⟨fb, 7, none⟩ = some (.pointer (some ⟨bd + 1, 0, none⟩)) := ((unhide fr9).row (unhide H6).1 (by simp)).cell (i := 7) (by omega)
  go_wp2_with fail
  refine (entries_any W9 (bd + 1) 2 2 bd gp ((unhide H6).2.2.2.1.fr (unhide fr9) (by simp) (by simp)) 4 rfl (by omega) (by omega)).mono ?_
  rintro e w10 ⟨b9, c9, rfl, v9, hb9, f10⟩
  clear k7
  have fr10 := hide ((unhide fr9).trans f10)
  have f710 := hide ((unhide f79).trans f10)
  have V9 := hide v9
  clear fr9 f79 f10 v9 hb9
  go_wp2_with fail
  obtain ⟨ra0, ra1, ra2, rw0, rw1, rx0, rx1, rp0, rp1, rd, hd, rq0, rq1, gq0, gq1, gp0, gp1⟩ := unhide H
  have hr1 : w6.heap.size + 1 = r1n := unhide Hr1
  have RR10 := (unhide HRR).fr (unhide f710) (by simp) (by simp)
  subst hr1
  have hc := acov_any w10 on w6.heap.size (w6.heap.size + 1) m00 m01 m01 m11 p0 p1 q0 q1 (i0 * id) (i1 * id) (i1 * id) (i2 * id) l0 l1 (j0 * j0) (j1 * j1) 32640 255 65025 (RR10.outer.cell (i := 0) (by omega)) (RR10.outer.cell (i := 1) (by omega)) ((RR10.row 0 (by omega)).cell (i := 0) (by omega)) ((RR10.row 0 (by omega)).cell (i := 1) (by omega)) ((RR10.row 1 (by omega)).cell (i := 0) (by omega)) ((RR10.row 1 (by omega)).cell (i := 1) (by omega)) RR10.outer.lt (RR10.row 0 (by omega)).lt (RR10.row 1 (by omega)).lt
    (unhide HE).1 (unhide HE).2.1 (unhide HE).2.1 (unhide HE).2.2.1 rp0 rp1 ⟨rq0, rw0.2.mul rw0.2⟩ ⟨rq1, rw1.2.mul rw1.2⟩ (by decide) (by decide)
  clear ra0 ra1 ra2 rw0 rw1 rx0 rx1 rp0 rp1 rd hd rq0 rq1 gq0 gq1 gp0 gp1 RR10
  refine hc.mono ?_
  rintro e w11 ⟨rfl, f11, gc, rowc, s0, s1, s2, s3⟩
  clear hc
  have fr11 := hide ((unhide fr10).trans f11)
  have o11 : ∀ i, i < 4 → Ieee.double.order (gp i) (gc i) = some .eq := fun i hi => by
    obtain ⟨h0, h1, h2, h3⟩ := (unhide H6).2.2.2.2.1
    simp only [ft, sy] at h0 h1 h2 h3
    match i, hi with
    | 0, _ => exact rep_ord h0 s0
    | 1, _ => exact rep_ord h1 s1
    | 2, _ => exact rep_ord h2 s2
    | 3, _ => exact rep_ord h3 s3
  have V11 := (unhide V9).fr f11 (by simp)
  have A11 := hide (aeq_true w11 b9 0 4 c9 w10.heap.size 0 4 gp gc (by omega) (fun i hi => by rw [Nat.zero_add]; exact V11.cell hi) (fun i hi => by rw [Nat.zero_add]; exact rowc.cell hi) o11)
  clear fr10 f710 f11 rowc s0 s1 s2 s3 o11 V11 V9 HRR
  go_wp2_with fail
  refine (unhide A11).mono ?_
  rintro e w12 ⟨rfl, q12, rfl⟩
  clear A11
  have fr12 : Hid (Fr [] w6 (w11.drewN q12)) := hide ((unhide fr11).drewN q12)
  clear fr11
  generalize w11.drewN q12 = W12 at *
  have k3 : W12.cell? ⟨mb, 3, none⟩ = some (.slice (some ⟨g2, 0, none⟩) 2 lc2) := ((unhide fr12).row (unhide H6).2.2.2.2.2.2.2.2.2.1 (by simp)).cell (i := 3) (by omega)
  have fa12 : Hid (Fr [] w6 (W12.alloc (.cells #[.float .f64 4607182418800017408, .float .f64 dt] 26))) := hide ((unhide fr12).alloc _)
  have rl := row2 W12 4607182418800017408 dt
  have lg := ownsRow_fr (unhide H6).2.2.2.2.2.2.2.2.2.2 (unhide fa12) (by simp)
  have cl : ∀ i, i < 2 → (W12.alloc (.cells #[.float .f64 4607182418800017408, .float .f64 dt] 26)).cell? ⟨g2, 0 + i, none⟩ = some (fv (Wk.v2 4607182418800017408 dt) i) := fun i hi => by
    match i, hi with
    | 0, _ =>
      have h := own_cell lg 0 (.float .f64 4607182418800017408) rfl
      rw [Go.WideShapes.add_plain] at h
      exact h
    | 1, _ =>
      have h := own_cell lg 1 (.float .f64 dt) rfl
      rw [Go.WideShapes.add_plain] at h
      exact h
  have A12 := hide (aeq_true (W12.alloc (.cells #[.float .f64 4607182418800017408, .float .f64 dt] 26)) g2 0 2 lc2 W12.heap.size 0 2 (Wk.v2 4607182418800017408 dt) (Wk.v2 4607182418800017408 dt) (by omega) cl (fun i hi => by rw [Nat.zero_add]; exact rl.cell hi) (fun i hi => by
    match i, hi with
    | 0, _ => exact rep_ord rep_one rep_one
    | 1, _ => exact rep_ord (unhide H).2.2.2.2.2.2.2.2.2.1.1 (unhide H).2.2.2.2.2.2.2.2.2.1.1))
  clear rl lg cl
  go_wp2_with fail
  refine (unhide A12).mono ?_
  rintro e w13 ⟨rfl, q13, rfl⟩
  clear A12 k3
  have fr13 : Hid (Fr [] w6 ((W12.alloc (.cells #[.float .f64 4607182418800017408, .float .f64 dt] 26)).drewN q13)) := hide ((unhide fa12).drewN q13)
  clear fr12 fa12
  generalize (W12.alloc (.cells #[.float .f64 4607182418800017408, .float .f64 dt] 26)).drewN q13 = W13 at *
  have k8 : W13.cell? ⟨fb, 8, none⟩ = some (.pointer (some ⟨wf.heap.size, 0, none⟩)) := ((unhide fr13).row (unhide H6).1 (by simp)).cell (i := 8) (by omega)
  have rc13 := (unhide fr13).row (unhide H6).2.2.2.2.2.1 (by simp)
  have u2 : W13.cell? ⟨wf.heap.size, 2, none⟩ = some (.slice (some ⟨b1, 0, none⟩) 2 c1) := rc13.cell (i := 2) (by omega)
  have x13 := (unhide fr13).row (unhide xr6) (by simp)
  have v13 := (unhide H6).2.2.2.2.2.2.1.fr (unhide fr13) (by simp)
  have A13 := hide (aeq_true W13 b1 0 2 c1 xb 0 2 (Wk.v2 x0 x1) (Wk.v2 x0 x1) (by omega) (fun i hi => by rw [Nat.zero_add]; exact v13.cell hi) (fun i hi => by rw [Nat.zero_add]; exact x13.cell hi) (fun i hi => by
    match i, hi with
    | 0, _ => exact rep_ord (unhide H).2.2.2.2.2.1.1 (unhide H).2.2.2.2.2.1.1
    | 1, _ => exact rep_ord (unhide H).2.2.2.2.2.2.1.1 (unhide H).2.2.2.2.2.2.1.1))
  clear rc13 x13 v13
  go_wp2_with fail
  refine (unhide A13).mono ?_
  rintro e w14 ⟨rfl, q14, rfl⟩
  clear A13 k8 u2
  have fr14 : Hid (Fr [] w6 (W13.drewN q14)) := hide ((unhide fr13).drewN q14)
  clear fr13
  generalize W13.drewN q14 = W14 at *
  have u3 : W14.cell? ⟨wf.heap.size, 3, none⟩ = some (.slice (some ⟨b2, 0, none⟩) 4 c2) := ((unhide fr14).row (unhide H6).2.2.2.2.2.1 (by simp)).cell (i := 3) (by omega)
  have r4 := row4 W14 p0 0 0 p1
  have fa14 : Hid (Fr [] w6 (W14.alloc (.cells #[.float .f64 p0, .float .f64 0, .float .f64 0, .float .f64 p1] 26))) := hide ((unhide fr14).alloc _)
  have v14 := (unhide H6).2.2.2.2.2.2.2.1.fr (unhide fa14) (by simp)
  have A14 := hide (aeq_true (W14.alloc (.cells #[.float .f64 p0, .float .f64 0, .float .f64 0, .float .f64 p1] 26)) b2 0 4 c2 W14.heap.size 0 4 (flat 2 (f22 p0 0 0 p1)) (g4 p0 0 0 p1) (by omega) (fun i hi => by rw [Nat.zero_add]; exact v14.cell hi) (fun i hi => by rw [Nat.zero_add]; exact r4.cell hi) (fun i hi => by
    match i, hi with
    | 0, _ => exact rep_ord (unhide H).2.2.2.2.2.2.2.1.1 (unhide H).2.2.2.2.2.2.2.1.1
    | 1, _ => exact rep_ord rep0 rep0
    | 2, _ => exact rep_ord rep0 rep0
    | 3, _ => exact rep_ord (unhide H).2.2.2.2.2.2.2.2.1.1 (unhide H).2.2.2.2.2.2.2.2.1.1))
  clear r4 v14
  go_wp2_with fail
  refine (unhide A14).mono ?_
  rintro e w15 ⟨rfl, q15, rfl⟩
  clear A14 u3
  have fr15 : Hid (Fr [] w6 ((W14.alloc (.cells #[.float .f64 p0, .float .f64 0, .float .f64 0, .float .f64 p1] 26)).drewN q15)) := hide ((unhide fa14).drewN q15)
  clear fr14 fa14
  generalize (W14.alloc (.cells #[.float .f64 p0, .float .f64 0, .float .f64 0, .float .f64 p1] 26)).drewN q15 = W15 at *
  have u4 : W15.cell? ⟨wf.heap.size, 4, none⟩ = some (.slice (some ⟨b3, 0, none⟩) 1 c3) := ((unhide fr15).row (unhide H6).2.2.2.2.2.1 (by simp)).cell (i := 4) (by omega)
  have r5 := row1 W15 dt
  have fa15 : Hid (Fr [] w6 (W15.alloc (.cells #[.float .f64 dt] 26))) := hide ((unhide fr15).alloc _)
  have v15 := (unhide H6).2.2.2.2.2.2.2.2.1.fr (unhide fa15) (by simp)
  have A15 := hide (aeq_true (W15.alloc (.cells #[.float .f64 dt] 26)) b3 0 1 c3 W15.heap.size 0 1 (fun _ => dt) (fun _ => dt) (by omega) (fun i hi => by rw [Nat.zero_add]; exact v15.cell hi) (fun i hi => by rw [Nat.zero_add]; exact r5.cell hi) (fun i hi => rep_ord (unhide H).2.2.2.2.2.2.2.2.2.1.1 (unhide H).2.2.2.2.2.2.2.2.2.1.1))
  clear r5 v15
  go_wp2_with fail
  refine (unhide A15).mono ?_
  rintro e w16 ⟨rfl, q16, rfl⟩
  clear A15 u4
  have fr16 : Hid (Fr [] w6 ((W15.alloc (.cells #[.float .f64 dt] 26)).drewN q16)) := hide ((unhide fa15).drewN q16)
  clear fr15 fa15
  generalize (W15.alloc (.cells #[.float .f64 dt] 26)).drewN q16 = W16 at *
  have u5 : W16.cell? ⟨wf.heap.size, 5, none⟩ = some (.slice none 0 0) := ((unhide fr16).row (unhide H6).2.2.2.2.2.1 (by simp)).cell (i := 5) (by omega)
  go_wp2
  go_ret
  exact ⟨rfl, (unhide frw6).trans (unhide fr16)⟩
end Go.Proofs.YbulkaotqFmt.Wk
