/-
  WORDS FOR THE WALKS OF THIS SEAT: 'Fr S w w'': of the blocks that w has, w' has turned none but those in S; 'Row': a row of floats; 'Mat': a '*mat.Dense'.
-/
import Derived.Test.YbulkaotqFmtRows
import Derived.Test.YbulkaotqFmtFl
import Derived.WalkKit
import Derived.WalkSpells
import Derived.WalkLawsBesides
import Derived.WalkSmall
import Derived.Deep.OwnRows
import Derived.Laws.CopyOwn
import Derived.Lib.LazyBuf
import Derived.Laws.FloatArith
import Derived.Deep.QuietTactic
import Derived.BigQuiet
namespace Go.Proofs.YbulkaotqFmt.Wk
open Go.RowKit

theorem hide {p : Prop} (h : p) : Hid p := h
theorem unhide {p : Prop} (h : Hid p) : p := h

/-- Nothing that was there has turned but blocks of S. -/
structure Fr (S : List Nat) (w w' : World) : Prop where
  os : w'.os = w.os
  tape : w'.tape = w.tape
  output : w'.output = w.output
  size : w.heap.size ≤ w'.heap.size
  block : ∀ k, k < w.heap.size → k ∉ S → w'.heap[k]? = w.heap[k]?

theorem Fr.refl (S : List Nat) (w : World) : Fr S w w := ⟨rfl, rfl, rfl, Nat.le_refl _, fun _ _ _ => rfl⟩
theorem Fr.trans {S : List Nat} {a b c : World} (h : Fr S a b) (k : Fr S b c) : Fr S a c :=
  ⟨k.os.trans h.os, k.tape.trans h.tape, k.output.trans h.output, Nat.le_trans h.size k.size, fun i hi hs => (k.block i (Nat.lt_of_lt_of_le hi h.size) hs).trans (h.block i hi hs)⟩
theorem Fr.mono {S T : List Nat} {w w' : World} (h : Fr S w w') (hs : ∀ k, k < w.heap.size → k ∈ S → k ∈ T) : Fr T w w' :=
  ⟨h.os, h.tape, h.output, h.size, fun k hk hT => h.block k hk (fun hS => hT (hs k hk hS))⟩
theorem Fr.drewN {S : List Nat} {a w : World} (h : Fr S a w) (n : Nat) : Fr S a (w.drewN n) := ⟨h.os, h.tape, h.output, h.size, h.block⟩
theorem Fr.drew {S : List Nat} {a w : World} (h : Fr S a w) : Fr S a w.drew := ⟨h.os, h.tape, h.output, h.size, h.block⟩
theorem Fr.alloc {S : List Nat} {a w : World} (h : Fr S a w) (o : Obj) : Fr S a (w.alloc o) :=
  h.trans ⟨rfl, rfl, rfl, by simp, fun k hk _ => Below.heap_alloc _ _ _ hk⟩
theorem Fr.setCell {S : List Nat} {a w : World} (h : Fr S a w) {p : Addr} (hp : p.block ∈ S ∨ a.heap.size ≤ p.block) (u : Value) : Fr S a (w.setCell p u) :=
  ⟨h.os, h.tape, h.output, Nat.le_trans h.size (by simp [World.setCell]), fun k hk hS => by
    rw [Below.heap_setCell _ _ _ _ (by rintro rfl; rcases hp with hp | hp; exact hS hp; omega)]; exact h.block k hk hS⟩
theorem Fr.below {S : List Nat} {w w' : World} {B : Nat} (h : Fr S w w') (hB : B ≤ w.heap.size) (hS : ∀ k ∈ S, B ≤ k) : Below B w w' :=
  ⟨h.os, h.tape, h.output, h.size, fun k hk => h.block k (by omega) (fun m => by have := hS k m; omega)⟩
theorem Fr.row {S : List Nat} {w w' : World} (h : Fr S w w') {b : Nat} {t : TypeId} {n : Nat} {f : Nat → Value} (r : w.rowIs b t n f) (hb : b ∉ S) : w'.rowIs b t n f := r.of_block (h.block b r.lt hb)
theorem Fr.grown {S : List Nat} {a w w' : World} {row : Option Nat} (h : Fr S a w) (hg : w.grownBy w' row) (hr : ∀ k, row = some k → k ∈ S ∨ a.heap.size ≤ k) : Fr S a w' :=
  ⟨hg.os.trans h.os, hg.tape.trans h.tape, hg.output.trans h.output, Nat.le_trans h.size hg.size, fun k hk hS => by
    rw [hg.block k (Nat.lt_of_lt_of_le hk h.size) (fun e => by rcases hr k e.symm with m | m; exact hS m; omega)]; exact h.block k hk hS⟩

theorem row_ne {w : World} {a b : Nat} {t u : TypeId} {n m : Nat} {f g : Nat → Value} (h : w.rowIs a t n f) (k : w.rowIs b u m g) (ht : t ≠ u) : a ≠ b := by
  rintro rfl
  obtain ⟨c, hc, _⟩ := h
  obtain ⟨d, hd, _⟩ := k
  rw [hc] at hd
  simp at hd
  exact ht hd.2
theorem rowIs_drewN {w : World} {b : Nat} {t : TypeId} {n : Nat} {f : Nat → Value} (h : w.rowIs b t n f) (q : Nat) : (w.drewN q).rowIs b t n f := h
theorem row_cell {w : World} {b : Nat} {t : TypeId} {n : Nat} {f : Nat → Value} (h : w.rowIs b t n f) {i : Nat} (hi : i < n) : w.cell? ⟨b, i, none⟩ = some (f i) := h.cell hi

/-- A float's value. -/
def fv (f : Nat → Nat) (i : Nat) : Value := .float .f64 (f i)
/-- The three cells of a matrix. -/
def dv (r c b : Nat) : Nat → Value
  | 0 => .int .i64 r
  | 1 => .int .i64 c
  | _ => .slice (some ⟨b, 0, none⟩) (r * c) (r * c)
structure Mat (w : World) (d r c b : Nat) (f : Nat → Nat) : Prop where
  head : w.rowIs d 76 3 (dv r c b)
  data : w.rowIs b 26 (r * c) (fv f)
theorem Mat.fr {S : List Nat} {w w' : World} {d r c b : Nat} {f : Nat → Nat} (h : Mat w d r c b f) (k : Fr S w w') (hd : d ∉ S) (hb : b ∉ S) : Mat w' d r c b f := ⟨k.row h.head hd, k.row h.data hb⟩
theorem Mat.c0 {w : World} {d r c b : Nat} {f : Nat → Nat} (h : Mat w d r c b f) : w.cell? ⟨d, 0, none⟩ = some (.int .i64 r) := h.head.cell (i := 0) (by omega)
theorem Mat.c1 {w : World} {d r c b : Nat} {f : Nat → Nat} (h : Mat w d r c b f) : w.cell? ⟨d, 1, none⟩ = some (.int .i64 c) := h.head.cell (i := 1) (by omega)
theorem Mat.c2 {w : World} {d r c b : Nat} {f : Nat → Nat} (h : Mat w d r c b f) : w.cell? ⟨d, 2, none⟩ = some (.slice (some ⟨b, 0, none⟩) (r * c) (r * c)) := h.head.cell (i := 2) (by omega)
theorem Mat.ne {w : World} {d r c b : Nat} {f : Nat → Nat} (h : Mat w d r c b f) : d ≠ b := row_ne h.head h.data (by decide)
theorem Mat.drewN {w : World} {d r c b : Nat} {f : Nat → Nat} (h : Mat w d r c b f) (q : Nat) : Mat (w.drewN q) d r c b f := ⟨h.head, h.data⟩

theorem info26 : (Ybaf.prog.info? 26).map (fun i => (i.zero, i.size, i.bytes)) = some (some (.float .f64 0), 1, 8) := by kernel_rfl
theorem size26 : (Ybaf.prog.info? 26).map (·.size) = some 1 := by kernel_rfl
theorem nil_eq (w : World) (a : Option Addr) (l c : Nat) : (binOp .eql 27 (.slice a l c) (.slice none 0 0)).run Ybaf.prog w = .ok (.bool a.isNone) w :=
  _root_.Go.run_eql_slice_nil (P := Ybaf.prog) w 27 26 a l c Ybaf.underlying27
theorem bits55 (b : Nat) (w : World) : (callFunc 55 #[.float .f64 b]).run Ybaf.prog w = .ok (.value (.int .u64 b)) w := by kernel_rfl
theorem from54 (n : Int) (w : World) : (callFunc 54 #[.int .u64 n]).run Ybaf.prog w = .ok (.value (.float .f64 n.toNat)) w := by kernel_rfl
theorem make27 (n : Nat) (h : n ≤ 1000) (w : World) : (Instr.makeSlice 27 (.int .i64 (n : Int)) (.int .i64 (n : Int))).run Ybaf.prog w = .ok (.slice (some ⟨w.heap.size, 0, none⟩) n n) (w.alloc (.cells (madeCells #[.float .f64 0] n) 26)) :=
  run_make_row' (P := Ybaf.prog) 27 26 (.float .f64 0) 8 Ybaf.underlying27 info26 rfl .i64 .i64 n (by omega) (by omega) w
theorem store_fl {w : World} {a : Addr} {u : Value} (hc : w.cell? a = some u) (hf : w.frozen? a = false) : ∀ v : Nat, (store a (.float .f64 v)).run Ybaf.prog w = .ok () (w.setCell a (.float .f64 v)) := by
  intro v
  rw [run_store Ybaf.prog w a (.float .f64 v) _ rfl, hc]
  simp [hf]
theorem mul_run {x y r : Nat} (h : Ieee.double.mul x y = some r) (w : World) : (binOp .mul 26 (.float .f64 x) (.float .f64 y)).run Ybaf.prog w = .ok (.float .f64 r) w := run_float_arith w .mul 26 .f64 x y r h
theorem add_run {x y r : Nat} (h : Ieee.double.add x y = some r) (w : World) : (binOp .add 26 (.float .f64 x) (.float .f64 y)).run Ybaf.prog w = .ok (.float .f64 r) w := run_float_arith w .add 26 .f64 x y r h
theorem sub_run {x y r : Nat} (h : Ieee.double.sub x y = some r) (w : World) : (binOp .sub 26 (.float .f64 x) (.float .f64 y)).run Ybaf.prog w = .ok (.float .f64 r) w := run_float_arith w .sub 26 .f64 x y r h
theorem div_run {x y r : Nat} (h : Ieee.double.div x y = some r) (w : World) : (binOp .quo 26 (.float .f64 x) (.float .f64 y)).run Ybaf.prog w = .ok (.float .f64 r) w := run_float_arith w .quo 26 .f64 x y r h

/-! ### Leaves -/
set_option maxHeartbeats 400000 in
theorem addProduct_any (s x y p r : Nat) (h1 : Ieee.double.mul x y = some p) (h2 : Ieee.double.add s p = some r) (w : World) :
    Calls Ybaf.prog 52 #[.float .f64 s, .float .f64 x, .float .f64 y] w fun e w' => e = .returned (.float .f64 r) ∧ w = w' := by
  have m1 := mul_run h1
  have m2 := add_run h2
  clear h1 h2
  go_enter Ybaf.func52, Ybaf.ntmps52
  go_wp2
  go_ret
  exact ⟨rfl, rfl⟩

set_option maxHeartbeats 400000 in
theorem dot_any (w : World) (ba oa n ca bb ob mb cb : Nat) (fa fb s : Nat → Nat) (hn : n ≤ 1000) (hc : n ≤ cb) (_hmc : mb ≤ cb) (hcb : cb ≤ 1000) (ha : ∀ i, i < n → w.cell? ⟨ba, oa + i, none⟩ = some (fv fa i)) (hb : ∀ i, i < n → w.cell? ⟨bb, ob + i, none⟩ = some (fv fb i))
    (hs0 : s 0 = 0) (hs : ∀ i, i < n → ∃ p, Ieee.double.mul (fa i) (fb i) = some p ∧ Ieee.double.add (s i) p = some (s (i + 1))) :
    Calls Ybaf.prog 43 #[.slice (some ⟨ba, oa, none⟩) n ca, .slice (some ⟨bb, ob, none⟩) mb cb] w fun e w' => e = .returned (.float .f64 (s n)) ∧ w = w' := by
  have Ha := hide ha
  have Hb := hide hb
  have Hs := hide hs
  have Hs0 := hide hs0
  clear ha hb hs hs0
  have hci : (n : Int) ≤ (cb : Int) := by omega
  go_enter Ybaf.func43, Ybaf.ntmps43
  go_wp2
  go_loop [5, 14] (fun v i => ∃ k : Nat, k ≤ n ∧ i = .int .i64 k ∧ v = .float .f64 (s k)) (fun _ i => n - (intOf i).toNat)
  case atStart => exact ⟨0, by omega, rfl, by rw [unhide Hs0]⟩
  case round =>
    obtain ⟨k, hk, rfl, rfl⟩ := hrel
    by_cases hkn : (k : Int) < (n : Int)
    · obtain ⟨p, h1, h2⟩ := (unhide Hs) k (by omega)
      have c1 := (unhide Ha) k (by omega)
      have c2 := (unhide Hb) k (by omega)
      unfold fv at c1 c2
      have H1 := hide h1
      have H2 := hide h2
      clear h1 h2
      go_wp2_with (go_at_call 52; refine (addProduct_any _ _ _ p _ (unhide H1) (unhide H2) _).mono ?_; rintro e w' ⟨rfl, rfl⟩)
      go_round
      case rel => exact ⟨k + 1, by omega, by go_num, rfl⟩
      case measure => simp [intOf]; omega
    · have hkk : k = n := by omega
      subst hkk
      go_wp2
      go_ret
      exact ⟨rfl, rfl⟩

set_option maxHeartbeats 400000 in
theorem fnf_any (w : World) (b o n c : Nat) (f : Nat → Nat) (hn : n ≤ 1000) (ha : ∀ i, i < n → w.cell? ⟨b, o + i, none⟩ = some (fv f i)) (hs : ∀ i, i < n → ∃ r, Ieee.double.sub (f i) (f i) = some r ∧ Ieee.double.order r 0 = some .eq) :
    Calls Ybaf.prog 25 #[.slice (some ⟨b, o, none⟩) n c] w fun e w' => e = .returned (.int .i64 (-1)) ∧ w = w' := by
  have Ha := hide ha
  have Hs := hide hs
  clear ha hs
  go_enter Ybaf.func25, Ybaf.ntmps25
  go_wp2
  go_loop [7] (fun i => ∃ k : Nat, k ≤ n ∧ i = .int .i64 k) (fun i => n - (intOf i).toNat)
  case atStart => exact ⟨0, by omega, rfl⟩
  case round =>
    obtain ⟨k, hk, rfl⟩ := hrel
    by_cases hkn : (k : Int) < (n : Int)
    · obtain ⟨r, h1, h2⟩ := (unhide Hs) k (by omega)
      have c1 := (unhide Ha) k (by omega)
      unfold fv at c1
      have m1 := sub_run h1
      have h2' : FloatKind.f64.format.order r 0 = some .eq := h2
      clear h1 h2
      go_wp2
      go_round
      case rel => exact ⟨k + 1, by omega, by go_num⟩
      case measure => simp [intOf]; omega
    · go_wp2
      go_ret
      exact ⟨rfl, rfl⟩
end Go.Proofs.YbulkaotqFmt.Wk
