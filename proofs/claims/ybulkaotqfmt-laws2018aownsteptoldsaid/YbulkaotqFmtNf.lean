/-
  The filter that 'NewFilter' (5) lays: a region that draws its order, of ten calls and four makes. The invariant and its laws.
-/
import Derived.Test.YbulkaotqFmtInv
import Derived.Test.YbulkaotqFmtMIn
import Derived.Test.YbulkaotqFmtRecd
namespace Go.Proofs.YbulkaotqFmt.Wk
open Go.RowKit Fl

/-! ### What an operation does, where its operands are known -/
theorem ex_move {P : Program} {a : Act} {w : World} {o : Oper} {x : Operand} (ho : o.op = .move x) : (execOp a.eval o).run P w = .ok (.value (a.eval x)) w := by
  unfold execOp
  rw [ho]
  rfl
theorem ex_assign {P : Program} {a : Act} {w : World} {o : Oper} {x : Operand} (ho : o.op = .assign x) : (execOp a.eval o).run P w = .ok (.value (a.eval x)) w := by
  unfold execOp
  rw [ho]
  rfl
theorem ex_make {a : Act} {w : World} {o : Oper} {x : Operand} {n : Nat} (ho : o.op = .makeSlice 27 x x) (hx : a.eval x = .int .i64 (n : Int)) (hn : n ≤ 1000) : (execOp a.eval o).run Ybaf.prog w = .ok (.value (.slice (some ⟨w.heap.size, 0, none⟩) n n)) (w.alloc (.cells (madeCells #[.float .f64 0] n) 26)) := by
  unfold execOp
  rw [ho]
  simp only [hx]
  rw [Sem.run_bind, make27 n hn w]
  rfl
theorem ex_new {a : Act} {w : World} {o : Oper} {x y : Operand} (ho : o.op = .call { callee := .value (.func 16), args := #[x, y], argTypes := #[3, 3] }) : (execOp a.eval o).run Ybaf.prog w = .ok (.enter 16 #[a.eval x, a.eval y]) w := by
  unfold execOp
  rw [ho]
  kernel_rfl
theorem ex_clone {a : Act} {w : World} {o : Oper} {x : Operand} (ho : o.op = .call { callee := .value (.func 15), args := #[x], argTypes := #[27] }) : (execOp a.eval o).run Ybaf.prog w = .ok (.enter 15 #[a.eval x]) w := by
  unfold execOp
  rw [ho]
  kernel_rfl
/-- The filter's 25 cells. -/
def fil (p0 p1 p2 p3 p4 p5 : Option Addr) (a6 : Option Addr) (n6 c6 : Nat) (p7 : Option Addr) (a9 : Option Addr) (n9 c9 : Nat) (p10 : Option Addr) (a14 : Option Addr) (n14 c14 : Nat) (a15 : Option Addr) (n15 c15 : Nat) (a16 : Option Addr) (n16 c16 : Nat) (p17 p18 p19 p20 p21 p22 p23 p24 : Option Addr) : Array Value :=
  #[.pointer p0, .pointer p1, .pointer p2, .pointer p3, .pointer p4, .pointer p5, .slice a6 n6 c6, .pointer p7, .pointer none, .slice a9 n9 c9, .pointer p10, .float .f64 0, .float .f64 0, .bool false, .slice a14 n14 c14, .slice a15 n15 c15, .slice a16 n16 c16, .pointer p17, .pointer p18, .pointer p19, .pointer p20, .pointer p21, .pointer p22, .pointer p23, .pointer p24]
theorem run_build (w : World) (p0 p1 p2 p3 p4 p5 : Option Addr) (a6 : Option Addr) (n6 c6 : Nat) (p7 : Option Addr) (a9 : Option Addr) (n9 c9 : Nat) (p10 : Option Addr) (a14 : Option Addr) (n14 c14 : Nat) (a15 : Option Addr) (n15 c15 : Nat) (a16 : Option Addr) (n16 c16 : Nat) (p17 p18 p19 p20 p21 p22 p23 p24 : Option Addr) :
    (Instr.build 47 #[(0, .agg #[.pointer p0, .pointer p1, .pointer p2, .pointer p3, .pointer p4, .pointer p5]), (1, .slice a6 n6 c6), (2, .pointer p7), (4, .slice a9 n9 c9), (5, .pointer p10), (9, .slice a14 n14 c14), (10, .slice a15 n15 c15), (11, .slice a16 n16 c16), (12, .pointer p17), (13, .pointer p18), (14, .pointer p19), (15, .pointer p20), (16, .pointer p21), (17, .pointer p22), (18, .pointer p23), (19, .pointer p24)]).run Ybaf.prog w = .ok (.agg (fil p0 p1 p2 p3 p4 p5 a6 n6 c6 p7 a9 n9 c9 p10 a14 n14 c14 a15 n15 c15 a16 n16 c16 p17 p18 p19 p20 p21 p22 p23 p24)) w := by kernel_rfl
theorem run_box (w : World) (p0 p1 p2 p3 p4 p5 : Option Addr) (a6 : Option Addr) (n6 c6 : Nat) (p7 : Option Addr) (a9 : Option Addr) (n9 c9 : Nat) (p10 : Option Addr) (a14 : Option Addr) (n14 c14 : Nat) (a15 : Option Addr) (n15 c15 : Nat) (a16 : Option Addr) (n16 c16 : Nat) (p17 p18 p19 p20 p21 p22 p23 p24 : Option Addr) :
    (Instr.box 47 (.agg (fil p0 p1 p2 p3 p4 p5 a6 n6 c6 p7 a9 n9 c9 p10 a14 n14 c14 a15 n15 c15 a16 n16 c16 p17 p18 p19 p20 p21 p22 p23 p24))).run Ybaf.prog w = .ok (.pointer (some ⟨w.heap.size, 0, none⟩)) (w.alloc (.cells (fil p0 p1 p2 p3 p4 p5 a6 n6 c6 p7 a9 n9 c9 p10 a14 n14 c14 a15 n15 c15 a16 n16 c16 p17 p18 p19 p20 p21 p22 p23 p24) 47)) := by kernel_rfl
theorem ex_build {a : Act} {w : World} {o : Oper} {ps : Array (Nat × Operand)} {v : Value} (ho : o.op = .build 47 ps) (hr : (Instr.build 47 (ps.map fun (i, x) => (i, a.eval x))).run Ybaf.prog w = .ok v w) : (execOp a.eval o).run Ybaf.prog w = .ok (.value v) w := by
  unfold execOp
  rw [ho]
  simp only []
  rw [Sem.run_bind, hr]
  rfl
theorem ex_box {a : Act} {w w' : World} {o : Oper} {x : Operand} {v : Value} (ho : o.op = .box 47 x) (hr : (Instr.box 47 (a.eval x)).run Ybaf.prog w = .ok v w') : (execOp a.eval o).run Ybaf.prog w = .ok (.value v) w' := by
  unfold execOp
  rw [ho]
  simp only []
  rw [Sem.run_bind, hr]
  rfl
theorem ex_load {a : Act} {w : World} {o : Oper} {x : Operand} {v : Value} {t : TypeId} (ho : o.op = .load t x) (hr : (Instr.loadAt t (a.eval x)).run Ybaf.prog w = .ok v w) : (execOp a.eval o).run Ybaf.prog w = .ok (.value v) w := by
  unfold execOp
  rw [ho]
  simp only []
  rw [Sem.run_bind, hr]
  rfl
theorem load_c6 (w : World) (cb : Nat) (p0 p1 p2 p3 p4 p5 : Option Addr) (h : w.rowIs cb 44 6 (c6 p0 p1 p2 p3 p4 p5)) : (Instr.loadAt 44 (.pointer (some ⟨cb, 0, none⟩))).run Ybaf.prog w = .ok (.agg #[.pointer p0, .pointer p1, .pointer p2, .pointer p3, .pointer p4, .pointer p5]) w := by
  have h0 := h.cell (i := 0) (by omega)
  have h1 := h.cell (i := 1) (by omega)
  have h2 := h.cell (i := 2) (by omega)
  have h3 := h.cell (i := 3) (by omega)
  have h4 := h.cell (i := 4) (by omega)
  have h5 := h.cell (i := 5) (by omega)
  simp only [c6] at h0 h1 h2 h3 h4 h5
  go_simp

/-! ### What is known of the slots -/
structure NFx (w : World) (B0 dp : Nat) (fx : Nat → Nat) (p0 p1 p2 p3 p4 p5 : Option Addr) (F : Nat → Value) (bx cx bo bd bt : Nat) : Prop where
  c0 : F 0 = .pointer p0
  c1 : F 1 = .pointer p1
  c2 : F 2 = .pointer p2
  c3 : F 3 = .pointer p3
  c4 : F 4 = .pointer p4
  c5 : F 5 = .pointer p5
  x : F 6 = .slice (some ⟨bx, 0, none⟩) 2 cx
  p : F 7 = .pointer (some ⟨dp, 0, none⟩)
  run : F 8 = .pointer none
  xn : F 14 = .slice (some ⟨bo, 0, none⟩) 2 2
  pn : F 17 = .pointer (some ⟨bd + 1, 0, none⟩)
  tmp : F 22 = .pointer (some ⟨bt + 1, 0, none⟩)
  vx : Vec w bx 2 cx fx
  vo : w.rowIs bo 26 2 (fv fun _ => 0)
  md : Mat w (bd + 1) 2 2 bd (fun _ => 0)
  mt : Mat w (bt + 1) 2 2 bt (fun _ => 0)
  g1 : B0 ≤ bx
  g2 : B0 ≤ bo
  g3 : B0 ≤ bd
  g4 : B0 ≤ bt
  n1 : bx ≠ bo
  n2 : bx ≠ bd
  n3 : bx ≠ bt
  n4 : bo ≠ bd
  n5 : bo ≠ bt
  n6 : bd ≠ bt
theorem NFx.mv {w w' : World} {B0 dp : Nat} {fx : Nat → Nat} {p0 p1 p2 p3 p4 p5 : Option Addr} {F : Nat → Value} {bx cx bo bd bt : Nat} (h : NFx w B0 dp fx p0 p1 p2 p3 p4 p5 F bx cx bo bd bt) (k : Fr [] w w') : NFx w' B0 dp fx p0 p1 p2 p3 p4 p5 F bx cx bo bd bt :=
  { c0 := h.c0, c1 := h.c1, c2 := h.c2, c3 := h.c3, c4 := h.c4, c5 := h.c5, x := h.x, p := h.p, run := h.run, xn := h.xn, pn := h.pn, tmp := h.tmp
    vx := h.vx.fr k (by simp), vo := k.row h.vo (by simp), md := h.md.fr k (by simp) (by simp), mt := h.mt.fr k (by simp) (by simp)
    g1 := h.g1, g2 := h.g2, g3 := h.g3, g4 := h.g4, n1 := h.n1, n2 := h.n2, n3 := h.n3, n4 := h.n4, n5 := h.n5, n6 := h.n6 }
def IsFil (cs : Array Value) : Prop := ∃ p0 p1 p2 p3 p4 p5 a6 n6 c6 p7 a9 n9 c9 p10 a14 n14 c14 a15 n15 c15 a16 n16 c16 p17 p18 p19 p20 p21 p22 p23 p24, cs = fil p0 p1 p2 p3 p4 p5 a6 n6 c6 p7 a9 n9 c9 p10 a14 n14 c14 a15 n15 c15 a16 n16 c16 p17 p18 p19 p20 p21 p22 p23 p24
def Post (B0 _cb dp : Nat) (vx : Value) (fx : Nat → Nat) (p0 p1 p2 p3 p4 p5 : Option Addr) : Nat → Value → World → Prop
  | 0, v, _ => v = .agg #[.pointer p0, .pointer p1, .pointer p2, .pointer p3, .pointer p4, .pointer p5]
  | 1, v, _ => v = vx
  | 2, v, w => ∃ b c, v = .slice (some ⟨b, 0, none⟩) 2 c ∧ Vec w b 2 c fx ∧ B0 ≤ b
  | 3, v, _ => v = .pointer (some ⟨dp, 0, none⟩)
  | 4, v, _ => v = .int .i64 1
  | 5, v, _ => ∃ a n c, v = .slice a n c
  | 6, v, _ => v = .int .i64 1
  | 7, v, _ => v = .int .i64 1
  | 8, v, _ => ∃ a, v = .pointer a
  | 9, v, _ => v = .int .i64 2
  | 10, v, w => ∃ b, v = .slice (some ⟨b, 0, none⟩) 2 2 ∧ w.rowIs b 26 2 (fv fun _ => 0) ∧ B0 ≤ b
  | 11, v, _ => v = .int .i64 1
  | 12, v, _ => ∃ a n c, v = .slice a n c
  | 13, v, _ => v = .int .i64 1
  | 14, v, _ => ∃ a n c, v = .slice a n c
  | 15, v, _ => v = .int .i64 2
  | 16, v, _ => v = .int .i64 2
  | 17, v, w => ∃ b, v = .pointer (some ⟨b + 1, 0, none⟩) ∧ Mat w (b + 1) 2 2 b (fun _ => 0) ∧ B0 ≤ b
  | 18, v, _ => v = .int .i64 1
  | 19, v, _ => v = .int .i64 1
  | 20, v, _ => ∃ a, v = .pointer a
  | 21, v, _ => v = .int .i64 1
  | 22, v, _ => v = .int .i64 1
  | 23, v, _ => ∃ a, v = .pointer a
  | 24, v, _ => v = .int .i64 2
  | 25, v, _ => v = .int .i64 1
  | 26, v, _ => ∃ a, v = .pointer a
  | 27, v, _ => v = .int .i64 1
  | 28, v, _ => v = .int .i64 2
  | 29, v, _ => ∃ a, v = .pointer a
  | 30, v, _ => v = .int .i64 2
  | 31, v, _ => v = .int .i64 2
  | 32, v, w => ∃ b, v = .pointer (some ⟨b + 1, 0, none⟩) ∧ Mat w (b + 1) 2 2 b (fun _ => 0) ∧ B0 ≤ b
  | 33, v, _ => v = .int .i64 2
  | 34, v, _ => v = .int .i64 2
  | 35, v, _ => ∃ a, v = .pointer a
  | 36, v, _ => v = .int .i64 2
  | 37, v, _ => v = .int .i64 2
  | 38, v, _ => ∃ a, v = .pointer a
  | 39, v, w => ∃ cs F bx cx bo bd bt, v = .agg cs ∧ IsFil cs ∧ NFx w B0 dp fx p0 p1 p2 p3 p4 p5 F bx cx bo bd bt ∧ cs.size = 25 ∧ ∀ k, k < cs.size → cs[k]? = some (F k)
  | 40, v, w => ∃ F fb bx cx bo bd bt, v = .pointer (some ⟨fb, 0, none⟩) ∧ w.rowIs fb 47 25 F ∧ B0 ≤ fb ∧ NFx w B0 dp fx p0 p1 p2 p3 p4 p5 F bx cx bo bd bt
  | 41, v, w => ∃ F fb bx cx bo bd bt, v = .pointer (some ⟨fb, 0, none⟩) ∧ w.rowIs fb 47 25 F ∧ B0 ≤ fb ∧ NFx w B0 dp fx p0 p1 p2 p3 p4 p5 F bx cx bo bd bt
  | 42, v, _ => v = .nilIface
  | _, _, _ => True
theorem Post.mv {B0 cb dp : Nat} {vx : Value} {fx : Nat → Nat} {p0 p1 p2 p3 p4 p5 : Option Addr} : ∀ (i : Nat) {v : Value} {w w' : World}, Post B0 cb dp vx fx p0 p1 p2 p3 p4 p5 i v w → Fr [] w w' → Post B0 cb dp vx fx p0 p1 p2 p3 p4 p5 i v w'
  | 0, _, _, _, h, _ => h
  | 1, _, _, _, h, _ => h
  | 2, _, _, _, ⟨b, c, h1, h2, h3⟩, f => ⟨b, c, h1, h2.fr f (by simp), h3⟩
  | 3, _, _, _, h, _ => h
  | 4, _, _, _, h, _ => h
  | 5, _, _, _, h, _ => h
  | 6, _, _, _, h, _ => h
  | 7, _, _, _, h, _ => h
  | 8, _, _, _, h, _ => h
  | 9, _, _, _, h, _ => h
  | 10, _, _, _, ⟨b, h1, h2, h3⟩, f => ⟨b, h1, f.row h2 (by simp), h3⟩
  | 11, _, _, _, h, _ => h
  | 12, _, _, _, h, _ => h
  | 13, _, _, _, h, _ => h
  | 14, _, _, _, h, _ => h
  | 15, _, _, _, h, _ => h
  | 16, _, _, _, h, _ => h
  | 17, _, _, _, ⟨b, h1, h2, h3⟩, f => ⟨b, h1, h2.fr f (by simp) (by simp), h3⟩
  | 18, _, _, _, h, _ => h
  | 19, _, _, _, h, _ => h
  | 20, _, _, _, h, _ => h
  | 21, _, _, _, h, _ => h
  | 22, _, _, _, h, _ => h
  | 23, _, _, _, h, _ => h
  | 24, _, _, _, h, _ => h
  | 25, _, _, _, h, _ => h
  | 26, _, _, _, h, _ => h
  | 27, _, _, _, h, _ => h
  | 28, _, _, _, h, _ => h
  | 29, _, _, _, h, _ => h
  | 30, _, _, _, h, _ => h
  | 31, _, _, _, h, _ => h
  | 32, _, _, _, ⟨b, h1, h2, h3⟩, f => ⟨b, h1, h2.fr f (by simp) (by simp), h3⟩
  | 33, _, _, _, h, _ => h
  | 34, _, _, _, h, _ => h
  | 35, _, _, _, h, _ => h
  | 36, _, _, _, h, _ => h
  | 37, _, _, _, h, _ => h
  | 38, _, _, _, h, _ => h
  | 39, _, _, _, ⟨cs, F, bx, cx, bo, bd, bt, h1, h2, h3, h4⟩, f => ⟨cs, F, bx, cx, bo, bd, bt, h1, h2, h3.mv f, h4⟩
  | 40, _, _, _, ⟨F, fb, bx, cx, bo, bd, bt, h1, h2, h3, h4⟩, f => ⟨F, fb, bx, cx, bo, bd, bt, h1, f.row h2 (by simp), h3, h4.mv f⟩
  | 41, _, _, _, ⟨F, fb, bx, cx, bo, bd, bt, h1, h2, h3, h4⟩, f => ⟨F, fb, bx, cx, bo, bd, bt, h1, f.row h2 (by simp), h3, h4.mv f⟩
  | 42, _, _, _, h, _ => h
  | _ + 43, _, _, _, _, _ => trivial

/-- The slot that operation i writes. -/
def dsl (i : Nat) : Nat := if i ≤ 40 then 42 + i else if i = 41 then 6 else 7
theorem dsl_ne {i j : Nat} (hi : i < 43) (hj : j < 43) (h : i ≠ j) : dsl i ≠ dsl j := by
  unfold dsl
  repeat' split
  all_goals omega
/-- The block of a value's data. -/
def bl : Value → Nat
  | .slice (some a) _ _ => a.block
  | .pointer (some a) => a.block - 1
  | _ => 0
def rel (i : Nat) : Prop := i = 2 ∨ i = 10 ∨ i = 17 ∨ i = 32
theorem Post.bl_lt {B0 cb dp : Nat} {vx : Value} {fx : Nat → Nat} {p0 p1 p2 p3 p4 p5 : Option Addr} {i : Nat} {v : Value} {w : World} (h : Post B0 cb dp vx fx p0 p1 p2 p3 p4 p5 i v w) (hr : rel i) : bl v < w.heap.size := by
  rcases hr with rfl | rfl | rfl | rfl
  · obtain ⟨b, c, rfl, ⟨F, h2, _⟩, _⟩ := h
    exact h2.lt
  · obtain ⟨b, rfl, h2, _⟩ := h
    exact h2.lt
  · obtain ⟨b, rfl, h2, _⟩ := h
    exact h2.data.lt
  · obtain ⟨b, rfl, h2, _⟩ := h
    exact h2.data.lt

structure NInv (w0 : World) (B0 cb dp : Nat) (vx : Value) (fx : Nat → Nat) (p0 p1 p2 p3 p4 p5 : Option Addr) (listed : Array Bool) (a : Act) (w : World) : Prop where
  sz : listed.size = 43
  tsz : a.tmps.size = 83
  df : a.defers = []
  fr : Fr [] w0 w
  s1 : a.tmps.getD 1 undef = vx
  s8 : a.tmps.getD 8 undef = .pointer (some ⟨cb, 0, none⟩)
  s10 : a.tmps.getD 10 undef = .int .i64 2
  s11 : a.tmps.getD 11 undef = .int .i64 1
  s12 : a.tmps.getD 12 undef = .pointer (some ⟨dp, 0, none⟩)
  post : ∀ i, i < 43 → listed.getD i false = true → Post B0 cb dp vx fx p0 p1 p2 p3 p4 p5 i (a.tmps.getD (dsl i) undef) w
  dist : ∀ i j, rel i → rel j → i ≠ j → listed.getD i false = true → listed.getD j false = true → bl (a.tmps.getD (dsl i) undef) ≠ bl (a.tmps.getD (dsl j) undef)

theorem rel_lt {i : Nat} (h : rel i) : i < 43 := by
  unfold rel at h
  omega
theorem getD_put_same {a : Act} {d : Nat} {v : Value} (h : d < a.tmps.size) : (a.put (some d) v).tmps.getD d undef = v := by simp [Act.put, h]
theorem getD_put_ne {a : Act} {d t : Nat} {v : Value} (h : d ≠ t) : (a.put (some d) v).tmps.getD t undef = a.tmps.getD t undef := by simp [Act.put, h]
theorem getD_set_same {l : Array Bool} {i : Nat} (h : i < l.size) : (l.setIfInBounds i true).getD i false = true := by simp [h]
theorem getD_set_ne' {l : Array Bool} {i j : Nat} (h : i ≠ j) : (l.setIfInBounds i true).getD j false = l.getD j false := by simp [h]

theorem NInv.put {w0 : World} {B0 cb dp : Nat} {vx : Value} {fx : Nat → Nat} {p0 p1 p2 p3 p4 p5 : Option Addr} {listed : Array Bool} {a : Act} {w w' : World} (H : NInv w0 B0 cb dp vx fx p0 p1 p2 p3 p4 p5 listed a w) (i : Nat) (hi : i < 43) {v : Value} (f : Fr [] w w') (hp : Post B0 cb dp vx fx p0 p1 p2 p3 p4 p5 i v w') (hb : rel i → w.heap.size ≤ bl v) :
    NInv w0 B0 cb dp vx fx p0 p1 p2 p3 p4 p5 (listed.setIfInBounds i true) (a.put (some (dsl i)) v) w' := by
  have hd : ∀ t, t = 1 ∨ t = 8 ∨ t = 10 ∨ t = 11 ∨ t = 12 → dsl i ≠ t := by
    intro t ht
    unfold dsl
    repeat' split
    all_goals omega
  have hlt : dsl i < a.tmps.size := by
    rw [H.tsz]
    unfold dsl
    repeat' split
    all_goals omega
  refine { sz := by simp [H.sz], tsz := by simp [Act.put, H.tsz], df := H.df, fr := H.fr.trans f, s1 := ?_, s8 := ?_, s10 := ?_, s11 := ?_, s12 := ?_, post := ?_, dist := ?_ }
  · rw [getD_put_ne (hd 1 (by omega))]; exact H.s1
  · rw [getD_put_ne (hd 8 (by omega))]; exact H.s8
  · rw [getD_put_ne (hd 10 (by omega))]; exact H.s10
  · rw [getD_put_ne (hd 11 (by omega))]; exact H.s11
  · rw [getD_put_ne (hd 12 (by omega))]; exact H.s12
  · intro j hj hl
    by_cases e : i = j
    · subst e
      rw [getD_put_same hlt]
      exact hp
    · rw [getD_set_ne' e] at hl
      rw [getD_put_ne (dsl_ne hi hj e)]
      exact (H.post j hj hl).mv j f
  · intro j k rj rk hjk lj lk
    by_cases e : i = j
    · subst e
      rw [getD_set_ne' hjk] at lk
      rw [getD_put_same hlt, getD_put_ne (dsl_ne hi (rel_lt rk) hjk)]
      have h1 := (H.post k (rel_lt rk) lk).bl_lt rk
      have h2 := hb rj
      omega
    · rw [getD_set_ne' e] at lj
      rw [getD_put_ne (dsl_ne hi (rel_lt rj) e)]
      by_cases e2 : i = k
      · subst e2
        rw [getD_put_same hlt]
        have h1 := (H.post j (rel_lt rj) lj).bl_lt rj
        have h2 := hb rk
        omega
      · rw [getD_set_ne' e2] at lk
        rw [getD_put_ne (dsl_ne hi (rel_lt rk) e2)]
        exact H.dist j k rj rk hjk lj lk

theorem ready_dep {ops : Array Oper} {listed : Array Bool} {i d : Nat} {o : Oper} (hr : i ∈ Region.ready .any ops listed) (ho : ops[i]? = some o) (hd : ∃ e ∈ o.after, e.on = d ∧ Region.binds .any e = true) : listed.getD d false = true := by
  obtain ⟨_, o', ho', hall⟩ := mem_ready.1 hr
  rw [ho] at ho'
  injection ho' with e
  subst e
  obtain ⟨e, he, rfl, hb⟩ := hd
  exact hall e he hb
end Go.Proofs.YbulkaotqFmt.Wk
