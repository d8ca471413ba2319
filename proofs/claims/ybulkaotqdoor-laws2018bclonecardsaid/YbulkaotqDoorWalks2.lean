/-
  THE WALKS OF 'zzs2018bcopy' (5), 'slices.Clone' (10), 'built' (9), 'Measurement' (6).
-/
import Derived.Test.YbulkaotqDoorRows
import Derived.WalkKit
import Derived.WalkSpells
import Derived.WalkLawsBesides
import Derived.WalkSmall
import Derived.Deep.OwnRows
import Derived.Laws.CopyOwn
import Derived.Lib.LazyBuf
import Derived.Deep.QuietTactic
import Derived.BigQuiet
namespace Go.Proofs.YbulkaotqDoor.Clone
open Go.RowKit

theorem hide' {p : Prop} (h : p) : Hid p := h
theorem unhide' {p : Prop} (h : Hid p) : p := h
theorem bits7 (b : Nat) (w : World) : (callFunc 7 #[.float .f64 b]).run Ybad.prog w = .ok (.value (.int .u64 b)) w := by kernel_rfl
theorem from8 (n : Int) (w : World) : (callFunc 8 #[.int .u64 n]).run Ybad.prog w = .ok (.value (.float .f64 n.toNat)) w := by kernel_rfl
theorem info36 : (Ybad.prog.info? 36).map (fun i => (i.zero, i.size, i.bytes)) = some (some (.float .f64 0), 1, 8) := by kernel_rfl
theorem nil_eq (w : World) (a : Option Addr) (l c : Nat) : (binOp .eql 22 (.slice a l c) (.slice none 0 0)).run Ybad.prog w = .ok (.bool a.isNone) w :=
  _root_.Go.run_eql_slice_nil (P := Ybad.prog) w 22 36 a l c Ybad.underlying22
theorem size36 : (Ybad.prog.info? 36).map (·.size) = some 1 := by kernel_rfl

/-- A float's cell. -/
def fl (z : Nat → Nat) (i : Nat) : Value := .float .f64 (z i)
/-- What is known of a slice of floats at an address: its cells. -/
def At (w : World) (ad : Addr) (n : Nat) (z : Nat → Nat) : Prop := ∀ i, i < n → w.cell? (ad.add i) = some (fl z i)

theorem At.below {w w' : World} {ad : Addr} {n : Nat} {z : Nat → Nat} (h : At w ad n z) (hb : 0 < n → ad.block < w.heap.size) (hbel : Below w.heap.size w w') : At w' ad n z := fun i hi => by
  rw [hbel.cell (p := ad.add i) (by unfold Addr.add; split <;> exact hb (by omega))]; exact h i hi

/-- 'copy' of n floats into a new row of n. -/
theorem copy_run (w : World) (ad : Addr) (n cap : Nat) (z : Nat → Nat) (h : At w ad n z) (hb : 0 < n → ad.block < w.heap.size) :
    ∃ w2, (Builtin.copy_ #[22, 22] 3 #[.slice (some ⟨w.heap.size, 0, none⟩) n n, .slice (some ad) n cap]).run Ybad.prog (w.alloc (.cells (madeCells #[.float .f64 0] n) 36)) = .ok (goInt n) w2 ∧
      w2.rowIs w.heap.size 36 n (fl z) ∧ Below w.heap.size w w2 ∧ w2.heap.size = w.heap.size + 1 := by
  have hg : (w.alloc (.cells (madeCells #[.float .f64 0] n) 36)).heap[w.heap.size]? = some (.cells (madeCells #[.float .f64 0] n) 36 (0, 0)) := heap_alloc_new _ _
  have hrun := run_copy_row (P := Ybad.prog) (w.alloc (.cells (madeCells #[.float .f64 0] n) 36)) 22 22 3 36 w.heap.size 0 n n ad n cap (madeCells #[.float .f64 0] n) 36 ((List.range n).map (fl z)) Ybad.underlying22 size36 hg (by simp) ?_ (by simp [size_madeCells]) ?_
  · refine ⟨_, by simpa using hrun, ⟨_, setRow_heap _ _ _ _ _ _ hg, ?_, fun i hi => ?_⟩, ?_, by simp⟩
    · simp [size_madeCells]
    · simp only [List.getElem?_toArray]
      rw [List.getElem?_append_left (by simpa using hi)]
      simp [hi]
    · exact ((Below.refl _ _).alloc (Nat.le_refl _) _).trans ⟨rfl, rfl, rfl, by simp, fun k hk => setRow_other _ _ _ _ (by omega)⟩
  · intro j v hv
    simp only [List.getElem?_map] at hv
    have hj : j < n := by
      by_cases hj : j < n
      · exact hj
      · simp [hj] at hv
    simp [hj] at hv
    subst hv
    rw [World.cell?_alloc_lt _ _ _ (by unfold Addr.add; split <;> exact hb (by omega))]
    exact h j hj
  · intro v hv
    simp at hv
    obtain ⟨i, _, rfl⟩ := hv
    rfl

set_option maxHeartbeats 400000 in
theorem copy_nil (w : World) : Calls Ybad.prog 5 #[.slice none 0 0] w fun e w' => e = .returned (.slice none 0 0) ∧ w = w' := by
  have hq := nil_eq
  go_enter Ybad.func5, Ybad.ntmps5
  go_wp2
  go_ret
  exact ⟨rfl, rfl⟩

set_option maxHeartbeats 400000 in
theorem copy_some (w : World) (ad : Addr) (n cap : Nat) (z : Nat → Nat) (h : At w ad n z) (hb : 0 < n → ad.block < w.heap.size) (hn : n ≤ 1024) :
    Calls Ybad.prog 5 #[.slice (some ad) n cap] w fun e w' => e = .returned (.slice (some ⟨w.heap.size, 0, none⟩) n n) ∧ w'.rowIs w.heap.size 36 n (fl z) ∧ Below w.heap.size w w' ∧ w'.heap.size = w.heap.size + 1 := by
  obtain ⟨w2, hcp, hrow, hbel, hsz⟩ := copy_run w ad n cap z h hb
  have mk := run_make_row' (P := Ybad.prog) 22 36 (.float .f64 0) 8 Ybad.underlying22 info36 rfl .i64 .i64 n (by omega) (by omega)
  have Hrow := hide' hrow
  have Hbel := hide' hbel
  have Hsz := hide' hsz
  clear hrow hbel h hsz
  have hq := nil_eq
  go_enter Ybad.func5, Ybad.ntmps5
  go_wp2
  go_ret
  exact ⟨rfl, unhide' Hrow, unhide' Hbel, unhide' Hsz⟩

/-- 'slices.Clone' of nil. -/
theorem clone_nil (w : World) : Calls Ybad.prog 10 #[.slice none 0 0] w fun e w' => e = .returned (.slice none 0 0) ∧ w = w' := by
  have hq := nil_eq
  go_enter Ybad.func10, Ybad.ntmps10
  go_wp2
  go_ret
  exact ⟨rfl, rfl⟩

theorem own_empty (w : World) : (w.alloc (.cells #[] 36)).ownsRow w.heap.size 36 1 (.slice (some ⟨w.heap.size, 0, none⟩) 0 0) 0 [] :=
  ⟨rfl, .inr ⟨w.heap.size, 0, #[], rfl, Nat.le_refl _, heap_alloc_new _ _, Nat.zero_le _, Nat.zero_le _, rfl, rfl⟩⟩
/-- From what the law of append leaves to a row. -/
theorem row_of_own {w1 : World} {base n : Nat} {z : Nat → Nat} {v' : Value} (h : w1.ownsRow base 36 1 v' n ((List.range n).map (fl z))) (hv : v' ≠ .slice none 0 0) :
    ∃ g c f, v' = .slice (some ⟨g, 0, none⟩) n c ∧ w1.rowIs g 36 c f ∧ n ≤ c ∧ (∀ i, i < n → f i = fl z i) ∧ base ≤ g := by
  obtain ⟨_, h2⟩ := h
  rcases h2 with ⟨e, _⟩ | ⟨g, c, cur, e, hg, hh, hnc, _, hsz, htake⟩
  · exact absurd e hv
  · rw [Nat.mul_one] at hsz htake
    refine ⟨g, c, fun i => cur[i]?.getD undef, e, ⟨cur, hh, hsz, fun i hi => ?_⟩, hnc, fun i hi => ?_, hg⟩
    · have : i < cur.size := by omega
      simp [this]
    · have h1 : (cur.toList.take n)[i]? = ((List.range n).map (fl z))[i]? := by rw [htake]
      rw [List.getElem?_take_of_lt hi] at h1
      simp [hi] at h1
      simp [h1]

set_option maxHeartbeats 400000 in
/-- 'slices.Clone' of what is not nil: in new memory, in a row that may have room to spare. -/
theorem clone_some (w : World) (ad : Addr) (n cap : Nat) (z : Nat → Nat) (h : At w ad n z) (hb : 0 < n → ad.block < w.heap.size) (hn : n ≤ 1024) :
    Calls Ybad.prog 10 #[.slice (some ad) n cap] w fun e w' => ∃ g c f, e = .returned (.slice (some ⟨g, 0, none⟩) n c) ∧ w'.rowIs g 36 c f ∧ n ≤ c ∧ (∀ i, i < n → f i = fl z i) ∧ w.heap.size ≤ g ∧ Below w.heap.size w w' := by
  have hq := nil_eq
  have Hat := hide' h
  obtain ⟨i0, hi, hz0, hz1, hz2⟩ := info_parts info36
  clear h
  go_enter Ybad.func10, Ybad.ntmps10
  have hown := own_empty w
  go_wp2_with (at_builtin; refine wpList_append_own _ rfl _ _ 22 rfl w.heap.size 36 i0 (.float .f64 0) 1 8 Ybad.underlying22 hi hz0 hz1 hz2 rfl (by decide) _ 0 [] rfl hown ad n cap ((List.range n).map (fl z)) rfl (by simp) ?c1 ?c2 ?c3 ?c4 ?c5 ?_)
  case c1 =>
    intro j u hu
    have hj : j < n := by
      by_cases hj : j < n
      · exact hj
      · simp [hj] at hu
    simp [hj] at hu
    subst hu
    rw [World.cell?_alloc_lt _ _ _ (by unfold Addr.add; split <;> exact hb (by omega))]
    exact (unhide' Hat) j hj
  case c2 =>
    intro v hv
    simp at hv
    obtain ⟨i, _, rfl⟩ := hv
    rfl
  case c3 => unfold maxLen; omega
  case c4 => omega
  case c5 => simp
  intro v' w1 hown' hgrow hnil
  obtain ⟨g, c, f, rfl, hrow, hnc, hf, hg⟩ := row_of_own hown' hnil
  have hbel : Below w.heap.size w w1 := ((Below.refl _ _).alloc (Nat.le_refl _) _).grown hgrow (by simp) (by intro k hk; simp [Value.ownBlock] at hk; omega)
  clear hown hown' hgrow hnil
  have Hrow := hide' hrow
  have Hf := hide' hf
  have Hbel := hide' hbel
  clear hrow hf hbel
  go_wp2
  go_ret
  exact ⟨g, c, f, rfl, unhide' Hrow, hnc, unhide' Hf, hg, unhide' Hbel⟩

/-! ### The simulator -/
theorem sim_zero : ∃ z : Array Value, (∀ w, (zeroValue 40).run Ybad.prog w = .ok (.agg z) w) ∧ z.size = 59 :=
  ⟨(((Ybad.prog.info? 40).bind (·.zero)).map Value.cells).getD #[], fun w => by kernel_rfl, by kernel_rfl⟩

set_option maxHeartbeats 400000 in
theorem built_any (w : World) (sb : Nat) (ax : Addr) (n c : Nat) (h : w.cell? ⟨sb, 53, none⟩ = some (.slice (some ax) n c)) :
    Calls Ybad.prog 9 #[.pointer (some ⟨sb, 0, none⟩)] w fun e w' => e = .returned .nilIface ∧ w = w' := by
  have hq := nil_eq
  go_enter Ybad.func9, Ybad.ntmps9
  go_wp2
  go_ret
  exact ⟨rfl, rfl⟩

set_option maxHeartbeats 400000 in
theorem meas_nil (w : World) (sb : Nat) (ax : Addr) (n c : Nat) (h : w.cell? ⟨sb, 53, none⟩ = some (.slice (some ax) n c)) (hz : w.cell? ⟨sb, 54, none⟩ = some (.slice none 0 0)) :
    Calls Ybad.prog 6 #[.pointer (some ⟨sb, 0, none⟩)] w fun e w' => e = .returned (.slice none 0 0) ∧ w = w' := by
  go_enter Ybad.func6, Ybad.ntmps6
  go_wp2_with (first | (go_at_call 9; refine (built_any _ sb ax n c h).mono ?_; rintro e w' ⟨rfl, rfl⟩) | (go_at_call 10; refine (clone_nil _).mono ?_; rintro e w' ⟨rfl, rfl⟩))
  go_ret
  exact ⟨rfl, rfl⟩

set_option maxHeartbeats 400000 in
theorem meas_some (w : World) (sb : Nat) (ax : Addr) (n c : Nat) (h : w.cell? ⟨sb, 53, none⟩ = some (.slice (some ax) n c)) (ad : Addr) (m cap : Nat) (z : Nat → Nat) (hz : w.cell? ⟨sb, 54, none⟩ = some (.slice (some ad) m cap))
    (hat : At w ad m z) (hb : 0 < m → ad.block < w.heap.size) (hm : m ≤ 1024) :
    Calls Ybad.prog 6 #[.pointer (some ⟨sb, 0, none⟩)] w fun e w' => ∃ g c f, e = .returned (.slice (some ⟨g, 0, none⟩) m c) ∧ w'.rowIs g 36 c f ∧ m ≤ c ∧ (∀ i, i < m → f i = fl z i) ∧ w.heap.size ≤ g ∧ Below w.heap.size w w' := by
  have Hat := hide' hat
  clear hat
  go_enter Ybad.func6, Ybad.ntmps6
  go_wp2_with (go_at_call 9; refine (built_any _ sb ax n c h).mono ?_; rintro e w' ⟨rfl, rfl⟩)
  refine (clone_some _ ad m cap z (unhide' Hat) hb hm).mono ?_
  rintro e w' ⟨g, c', f, rfl, r⟩
  have Hr := hide' r
  clear r
  go_wp2
  go_ret
  exact ⟨g, c', f, rfl, unhide' Hr⟩
end Go.Proofs.YbulkaotqDoor.Clone
