/-
  'symmetricPSD' (31), 'covariance' (13) at a diagonal matrix of one or two rows.
-/
import Derived.Test.YbulkaotqFmtPos
namespace Go.Proofs.YbulkaotqFmt.Wk
open Go.RowKit

/-- A diagonal matrix of n rows whose variances pass. -/
def Diag (n : Nat) (f : Nat → Nat) : Prop := (n = 1 ∧ Good (f 0)) ∨ (n = 2 ∧ f 1 = 0 ∧ f 2 = 0 ∧ Good (f 0) ∧ Good (f 3))
theorem Diag.shape {n : Nat} {f : Nat → Nat} (h : Diag n f) : Shape n n := by
  rcases h with ⟨rfl, _⟩ | ⟨rfl, _⟩
  · exact ⟨.inl rfl, .inl rfl⟩
  · exact ⟨.inr rfl, .inr rfl⟩
theorem fa_any (w : World) (n d b : Nat) (f : Nat → Nat) (m : Mat w d n n b f) (h : Diag n f) :
    Calls Ybaf.prog 39 #[.pointer (some ⟨d, 0, none⟩), .float .f64 tol] w fun e w' => e = .returned (.tuple #[.int .i64 (-1), .int .i64 (-1)]) ∧ ∃ q, w' = w.drewN q := by
  rcases h with ⟨rfl, g⟩ | ⟨rfl, h1, h2, g0, g3⟩
  · exact fa1 w d b f m g
  · exact fa2 w d b f m h1 h2 g0 g3
theorem sym_any (w : World) (n d b : Nat) (f : Nat → Nat) (m : Mat w d n n b f) (h : Diag n f) :
    Calls Ybaf.prog 40 #[.pointer (some ⟨d, 0, none⟩)] w fun e w' => e = .returned (.tuple #[]) ∧ ∃ q, w' = w.drewN q := by
  rcases h with ⟨rfl, g⟩ | ⟨rfl, h1, h2, g0, g3⟩
  · exact sym1 w d b f m
  · exact sym2 w d b f m h1 h2
theorem psd_any (w : World) (n d b dw bw : Nat) (f g : Nat → Nat) (m : Mat w d n n b f) (mw : Mat w dw n n bw g) (hbb : b ≠ bw) (h : Diag n f) :
    Calls Ybaf.prog 41 #[.pointer (some ⟨d, 0, none⟩), .pointer (some ⟨dw, 0, none⟩), .float .f64 tol] w fun e w' => e = .returned (.bool true) ∧ Fr [bw] w w' ∧ w'.heap.size = w.heap.size := by
  rcases h with ⟨rfl, g0⟩ | ⟨rfl, h1, h2, g0, g3⟩
  · exact psd1 w d b dw bw f g m mw hbb g0
  · exact psd2 w d b dw bw f g m mw hbb h1 h2 g0 g3

set_option maxRecDepth 100000 in
set_option maxHeartbeats 1000000 in
theorem symPSD_any (w : World) (nm : ByteArray) (rows : Value) (n d b : Nat) (f : Nat → Nat) (m : Mat w d n n b f) (h : Diag n f) :
    Calls Ybaf.prog 31 #[.string nm, rows, .pointer (some ⟨d, 0, none⟩)] w fun e w' => e = .returned .nilIface ∧ Fr [] w w' ∧ w'.heap.size = w.heap.size + 2 := by
  have Hm := hide m
  have Hh := hide h
  clear m h
  go_enter Ybaf.func31, Ybaf.ntmps31
  go_wp2_with fail
  refine (fa_any _ n d b f (by exact ⟨(unhide Hm).head, (unhide Hm).data⟩) (unhide Hh)).mono ?_
  rintro e w1 ⟨rfl, q1, rfl⟩
  go_wp2_with fail
  refine (sym_any _ n d b f (by exact ⟨(unhide Hm).head, (unhide Hm).data⟩) (unhide Hh)).mono ?_
  rintro e w1 ⟨rfl, q2, rfl⟩
  go_wp2_with fail
  refine (dims_any _ d n n b f (by exact ⟨(unhide Hm).head, (unhide Hm).data⟩)).mono ?_
  rintro e w1 ⟨rfl, q3, rfl⟩
  go_wp2_with fail
  refine (new_any _ n n (unhide Hh).shape).mono ?_
  rintro e w2 ⟨rfl, hm2, hfr2, hsz2⟩
  have hbb : b ≠ w.heap.size := Nat.ne_of_lt (unhide Hm).data.lt
  have Hma := hide ((unhide Hm).fr (S := []) (w' := w2) ⟨hfr2.os, hfr2.tape, hfr2.output, hfr2.size, hfr2.block⟩ (by simp) (by simp))
  have Hm2 := hide hm2
  have Hfr2 := hide hfr2
  have Hsz2 := hide hsz2
  clear hm2 hfr2 hsz2
  go_wp2_with fail
  refine (psd_any _ n d b (w.heap.size + 1) w.heap.size f _ (unhide Hma) (unhide Hm2) hbb (unhide Hh)).mono ?_
  rintro e w3 ⟨rfl, hfr3, hsz3⟩
  have Hfr3 := hide hfr3
  have Hsz3 := hide hsz3
  clear hfr3 hsz3
  go_wp2
  go_ret
  refine ⟨rfl, ?_, by rw [unhide Hsz3, unhide Hsz2]; simp⟩
  exact Fr.new (S := []) (a := w) (b := w2) ⟨(unhide Hfr2).os, (unhide Hfr2).tape, (unhide Hfr2).output, (unhide Hfr2).size, (unhide Hfr2).block⟩ (unhide Hfr3) (by simp)

set_option maxRecDepth 100000 in
set_option maxHeartbeats 1000000 in
theorem cov_any (w : World) (nm : ByteArray) (ob n : Nat) (rb : Nat → Nat) (f : Nat → Nat → Nat) (hin : RowsIn w ob n n rb f) (hfin : ∀ i, i < n → ∀ j, j < n → Fin1 (f i j)) (h : Diag n (flat n f)) :
    Calls Ybaf.prog 13 #[.string nm, .slice (some ⟨ob, 0, none⟩) n n, .int .i64 n] w fun e w' => e = .returned (.tuple #[.pointer (some ⟨w.heap.size + 1, 0, none⟩), .nilIface]) ∧ Mat w' (w.heap.size + 1) n n w.heap.size (flat n f) ∧ Fr [] w w' ∧ w'.heap.size = w.heap.size + 4 := by
  have hn := neq_nil35
  have Hin := hide hin
  have Hfin := hide hfin
  have Hh := hide h
  clear hin hfin h
  go_enter Ybaf.func13, Ybaf.ntmps13
  go_wp2_with fail
  refine (matrix_any _ nm ob n n rb f (unhide Hh).shape (unhide Hin) (unhide Hfin)).mono ?_
  rintro e w1 ⟨rfl, hm, hfr, hsz⟩
  have Hm := hide hm
  have Hfr := hide hfr
  have Hsz := hide hsz
  clear hm hfr hsz
  go_wp2_with fail
  refine (symPSD_any _ nm _ n _ _ _ (unhide Hm) (unhide Hh)).mono ?_
  rintro e w2 ⟨rfl, hfr2, hsz2⟩
  have Hfr2 := hide hfr2
  have Hsz2 := hide hsz2
  clear hfr2 hsz2
  go_wp2
  go_ret2
  exact ⟨rfl, (unhide Hm).fr (unhide Hfr2) (by simp) (by simp), (unhide Hfr).trans (unhide Hfr2), by rw [unhide Hsz2, unhide Hsz]⟩
end Go.Proofs.YbulkaotqFmt.Wk
