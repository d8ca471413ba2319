/-
  'checkModel' (12): the model as it comes in, and the checked model.
-/
import Derived.Test.YbulkaotqFmtStep
import Derived.Test.YbulkaotqFmtCov
namespace Go.Proofs.YbulkaotqFmt.Wk
open Go.RowKit Fl

/-- The rows of a model's matrices. -/
structure MIn (w : World) (oF oH oQ oR : Nat) (rF rH rQ rR : Nat → Nat) (fF fH fQ fR : Nat → Nat → Nat) : Prop where
  f : RowsIn w oF 2 2 rF fF
  h : RowsIn w oH 1 2 rH fH
  q : RowsIn w oQ 2 2 rQ fQ
  r : RowsIn w oR 1 1 rR fR
  ff : ∀ i, i < 2 → ∀ j, j < 2 → Fin1 (fF i j)
  fh : ∀ i, i < 1 → ∀ j, j < 2 → Fin1 (fH i j)
  fq : ∀ i, i < 2 → ∀ j, j < 2 → Fin1 (fQ i j)
  fr : ∀ i, i < 1 → ∀ j, j < 1 → Fin1 (fR i j)
  dq : Diag 2 (flat 2 fQ)
  dr : Diag 1 (flat 1 fR)
theorem MIn.mv {w w' : World} {oF oH oQ oR : Nat} {rF rH rQ rR : Nat → Nat} {fF fH fQ fR : Nat → Nat → Nat} (h : MIn w oF oH oQ oR rF rH rQ rR fF fH fQ fR) (k : Fr [] w w') : MIn w' oF oH oQ oR rF rH rQ rR fF fH fQ fR :=
  { f := h.f.fr k (by simp) (by simp), h := h.h.fr k (by simp) (by simp), q := h.q.fr k (by simp) (by simp), r := h.r.fr k (by simp) (by simp), ff := h.ff, fh := h.fh, fq := h.fq, fr := h.fr, dq := h.dq, dr := h.dr }
/-- The model's seven cells. -/
def mval (oF : Nat) (vB : Value) (oH oQ oR : Nat) (vm vd : Value) : Array Value :=
  #[.slice (some ⟨oF, 0, none⟩) 2 2, vB, .slice (some ⟨oH, 0, none⟩) 1 1, .slice (some ⟨oQ, 0, none⟩) 2 2, .slice (some ⟨oR, 0, none⟩) 1 1, vm, vd]
def mcell (oF : Nat) (vB : Value) (oH oQ oR : Nat) (vm vd : Value) : Nat → Value
  | 0 => .slice (some ⟨oF, 0, none⟩) 2 2
  | 1 => vB
  | 2 => .slice (some ⟨oH, 0, none⟩) 1 1
  | 3 => .slice (some ⟨oQ, 0, none⟩) 2 2
  | 4 => .slice (some ⟨oR, 0, none⟩) 1 1
  | 5 => vm
  | 6 => vd
  | _ => undef
def mboxd (w : World) (oF : Nat) (vB : Value) (oH oQ oR : Nat) (vm vd : Value) : World := w.alloc (.cells (mval oF vB oH oQ oR vm vd) 32)
theorem mbox (w : World) (oF : Nat) (vB : Value) (oH oQ oR : Nat) (vm vd : Value) : (w.alloc (.cells (mval oF vB oH oQ oR vm vd) 32)).rowIs w.heap.size 32 7 (mcell oF vB oH oQ oR vm vd) :=
  World.rowIs_alloc w (mval oF vB oH oQ oR vm vd) 32 (mcell oF vB oH oQ oR vm vd) (by
    intro i hi
    match i, hi with
    | 0, _ => rfl
    | 1, _ => rfl
    | 2, _ => rfl
    | 3, _ => rfl
    | 4, _ => rfl
    | 5, _ => rfl
    | 6, _ => rfl
    | i + 7, h => exact absurd h (by simp [mval]))
/-- The six cells of a checked model. -/
def c6 (a b c d e f : Option Addr) : Nat → Value
  | 0 => .pointer a
  | 1 => .pointer b
  | 2 => .pointer c
  | 3 => .pointer d
  | 4 => .pointer e
  | 5 => .pointer f
  | _ => undef
theorem c6_alloc (w : World) : (w.alloc (.cells #[.pointer none, .pointer none, .pointer none, .pointer none, .pointer none, .pointer none] 44)).rowIs w.heap.size 44 6 (c6 none none none none none none) :=
  World.rowIs_alloc w _ 44 (c6 none none none none none none) (by
    intro i hi
    match i, hi with
    | 0, _ => rfl
    | 1, _ => rfl
    | 2, _ => rfl
    | 3, _ => rfl
    | 4, _ => rfl
    | 5, _ => rfl
    | i + 6, h => exact absurd h (by simp))
theorem rep_ord {x y : Nat} {z : Int} (h : Rep x z) (k : Rep y z) : Ieee.double.order x y = some .eq := by
  rw [cmp_rep h k]
  simp
end Go.Proofs.YbulkaotqFmt.Wk
