/-
  'NewFilter' (5).
-/
import Derived.Test.YbulkaotqFmtNf
import Derived.Test.YbulkaotqFmtFilt
namespace Go.Proofs.YbulkaotqFmt.Wk
open Go.RowKit Fl

def backs (ops : Array Oper) : Bool := (List.range ops.size).all fun i => ((ops[i]?).map fun o => o.after.all fun e => decide (e.on < i)).getD true
theorem all_listed' {ops : Array Oper} {listed : Array Bool} (hsz : listed.size = ops.size) (hb : backs ops = true) (hr : Region.ready .any ops listed = []) : ∀ i, i < ops.size → listed.getD i true = true :=
  all_listed hsz (by
    intro i o ho e he
    have hi : i < ops.size := by
      rcases Nat.lt_or_ge i ops.size with h | h
      · exact h
      · rw [Array.getElem?_eq_none h] at ho; cases ho
    have h1 := List.all_eq_true.1 hb i (by simpa using hi)
    rw [ho] at h1
    simp only [Option.map_some, Option.getD_some] at h1
    have h2 := Array.all_eq_true_iff_forall_mem.1 h1 e he
    simpa using h2) hr
theorem ready_lt {ops : Array Oper} {listed : Array Bool} {i : Nat} (hr : i ∈ Region.ready .any ops listed) : i < ops.size := by
  obtain ⟨_, o, ho, _⟩ := mem_ready.1 hr
  rcases Nat.lt_or_ge i ops.size with h | h
  · exact h
  · rw [Array.getElem?_eq_none h] at ho; cases ho
theorem getD_tf {l : Array Bool} {i : Nat} (h : i < l.size) (e : l.getD i true = true) : l.getD i false = true := by
  simp [h] at e ⊢
  exact e
theorem rep_false (n i : Nat) : (Array.replicate n false).getD i false = false := by
  simp only [Array.getD_eq_getD_getElem?, Array.getElem?_replicate]
  split <;> rfl
theorem getD_some (cs : Array Value) : ∀ k, k < cs.size → cs[k]? = some (cs.getD k undef) := fun k h => by simp [h]

set_option maxRecDepth 100000 in
set_option maxHeartbeats 4000000 in
theorem newFilter_any (w : World) (oF : Nat) (vB : Value) (oH oQ oR : Nat) (vm vd : Value) (oP xb cxx : Nat) (rP : Nat → Nat) (fP : Nat → Nat → Nat) (fx : Nat → Nat) (p0 p1 p2 p3 p4 p5 : Option Addr) (S : List Nat) (R : World → Prop)
    (hchk : ∀ W, Fr [] w W → W.heap.size = w.heap.size + 1 → Calls Ybaf.prog 12 #[.agg (mval oF vB oH oQ oR vm vd)] W fun e w' => e = .returned (.tuple #[.agg #[.pointer p0, .pointer p1, .pointer p2, .pointer p3, .pointer p4, .pointer p5], .nilIface]) ∧ Fr S W w' ∧ R w')
    (hS : ∀ k ∈ S, k < w.heap.size) (hP : RowsIn w oP 2 2 rP fP) (hPf : ∀ i, i < 2 → ∀ j, j < 2 → Fin1 (fP i j)) (hPd : Diag 2 (flat 2 fP)) (hx : w.rowIs xb 26 2 (fv fx)) (hxf : ∀ i, i < 2 → Fin1 (fx i)) (n1 : oP ∉ S) (n2 : ∀ i, i < 2 → rP i ∉ S) (n3 : xb ∉ S) :
    Calls Ybaf.prog 5 #[.agg (mval oF vB oH oQ oR vm vd), .slice (some ⟨xb, 0, none⟩) 2 cxx, .slice (some ⟨oP, 0, none⟩) 2 2] w fun e w' => ∃ w1 F fb bx cx bo bd bt, e = .returned (.tuple #[.pointer (some ⟨fb, 0, none⟩), .nilIface]) ∧ Fr S w w1 ∧ R w1 ∧ Fr [] w1 w' ∧ w'.rowIs fb 47 25 F ∧ w1.heap.size + 5 ≤ fb ∧
      NFx w' (w1.heap.size + 5) (w1.heap.size + 2) fx p0 p1 p2 p3 p4 p5 F bx cx bo bd bt ∧ Mat w' (w1.heap.size + 2) 2 2 (w1.heap.size + 1) (flat 2 fP) := by
  have Hc := hide hchk
  have hn := neq_nil35
  clear hchk
  unfold mval
  go_enter Ybaf.func5, Ybaf.ntmps5
  go_wp2_with fail
  have hM := mbox w oF vB oH oQ oR vm vd
  have fM : Fr [] w (w.alloc (.cells (mval oF vB oH oQ oR vm vd) 32)) := (Fr.refl [] w).alloc _
  have hc := (unhide Hc) _ fM (by simp)
  unfold mval at hc hM fM
  refine hc.mono ?_
  rintro e w1 ⟨rfl, f1, r1⟩
  clear hc Hc
  have hlt : w.heap.size < w1.heap.size := by have := f1.size; rw [size_al] at this; omega
  have nS : w.heap.size ∉ S := fun h => absurd (hS _ h) (by omega)
  have rM := hide (f1.row hM nS)
  have fS : Fr S w w1 := (fM.mono (T := S) (by simp)).trans f1
  have x1 := hide (fS.row hx n3)
  have q1 := hide (hP.fr fS n1 n2)
  have k0 : w1.cell? ⟨w.heap.size, 0, none⟩ = some (.slice (some ⟨oF, 0, none⟩) 2 2) := (unhide rM).cell (i := 0) (by omega)
  have k2 : w1.cell? ⟨w.heap.size, 2, none⟩ = some (.slice (some ⟨oH, 0, none⟩) 1 1) := (unhide rM).cell (i := 2) (by omega)
  have d1 : w.heap.size ≠ w1.heap.size := by omega
  have d2 : w1.heap.size ≠ w.heap.size := by omega
  have HfS := hide fS
  have HR := hide r1
  have Hxf := hide hxf
  have HPf := hide hPf
  have HPd := hide hPd
  clear fS fM f1 hM r1 hx hP nS hxf hPf hPd
  go_wp2
  have rc2 : Hid ((w1.alloc (.cells #[.pointer p0, .pointer p1, .pointer p2, .pointer p3, .pointer p4, .pointer p5] 44)).rowIs w1.heap.size 44 6 (c6 p0 p1 p2 p3 p4 p5)) := hide (World.rowIs_alloc w1 _ 44 (c6 p0 p1 p2 p3 p4 p5) (by
    intro i hi
    match i, hi with
    | 0, _ => rfl
    | 1, _ => rfl
    | 2, _ => rfl
    | 3, _ => rfl
    | 4, _ => rfl
    | 5, _ => rfl
    | i + 6, h => exact absurd h (by simp)))
  have f2 : Hid (Fr [] w1 (w1.alloc (.cells #[.pointer p0, .pointer p1, .pointer p2, .pointer p3, .pointer p4, .pointer p5] 44))) := hide ((Fr.refl [] w1).alloc _)
  have k0' : (w1.alloc (.cells #[.pointer p0, .pointer p1, .pointer p2, .pointer p3, .pointer p4, .pointer p5] 44)).cell? ⟨w.heap.size, 0, none⟩ = some (.slice (some ⟨oF, 0, none⟩) 2 2) := ((unhide rM).alloc _).cell (i := 0) (by omega)
  have k2' : (w1.alloc (.cells #[.pointer p0, .pointer p1, .pointer p2, .pointer p3, .pointer p4, .pointer p5] 44)).cell? ⟨w.heap.size, 2, none⟩ = some (.slice (some ⟨oH, 0, none⟩) 1 1) := ((unhide rM).alloc _).cell (i := 2) (by omega)
  have s2 : (w1.alloc (.cells #[.pointer p0, .pointer p1, .pointer p2, .pointer p3, .pointer p4, .pointer p5] 44)).heap.size = w1.heap.size + 1 := size_al _ _
  generalize w1.alloc (.cells #[.pointer p0, .pointer p1, .pointer p2, .pointer p3, .pointer p4, .pointer p5] 44) = W2 at *
  clear k0 k2 rM
  go_quiet (fail)
  go_wp2_with fail
  have hc := cov_any (W2.drewN nq) ⟨#[105, 110, 105, 116, 105, 97, 108, 32, 99, 111, 118, 97, 114, 105, 97, 110, 99, 101]⟩ oP 2 rP fP (RowsIn.fr (unhide q1) ((unhide f2).drewN nq) (by simp) (by simp)) (unhide HPf) (unhide HPd)
  refine hc.mono ?_
  rintro e w3 ⟨rfl, m3, f3, s3⟩
  clear hc k0' k2'
  have e3 : (W2.drewN nq).heap.size = w1.heap.size + 1 := s2
  rw [e3] at m3 s3
  simp only [e3]
  have f13 : Hid (Fr [] w1 w3) := hide (((unhide f2).drewN nq).trans f3)
  have rc3 := hide (Fr.row (w := W2.drewN nq) f3 (unhide rc2) (by simp))
  have x3 := hide ((unhide f13).row (unhide x1) (by simp))
  have Hm3 := hide m3
  clear f3 m3 rc2 f2 q1 x1 e3 s2
  go_wp2_with fail
  refine (checkVector_any w3 _ xb 2 cxx fx (by omega) (fun i hi => (unhide x3).cell hi) (unhide Hxf)).mono ?_
  rintro e w4 ⟨rfl, rfl⟩
  go_wp2
  refine wp_region_any (by kernel_rfl) ?_
  have rc4 : Hid (w3.rowIs w1.heap.size 44 6 (c6 p0 p1 p2 p3 p4 p5)) := rc3
  have x4 : Hid (w3.rowIs xb 26 2 (fv fx)) := x3
  rename_i K hK
  refine wpAny_inv (NInv w3 w3.heap.size w1.heap.size (w1.heap.size + 1 + 1) (.slice (some ⟨xb, 0, none⟩) 2 cxx) fx p0 p1 p2 p3 p4 p5) ?hend ?hstep _ _ _ _ ?hunl ?hinit
  case hunl => exact Nat.le_of_eq (by kernel_rfl)
  case hinit =>
    exact { sz := rfl, tsz := rfl, df := rfl, fr := (Fr.refl [] w3).drew, s1 := rfl, s8 := rfl, s10 := rfl, s11 := rfl, s12 := rfl, post := fun i _ h => absurd (h.symm.trans (rep_false _ i)) (by decide), dist := fun i _ _ _ _ h => absurd (h.symm.trans (rep_false _ i)) (by decide) }
  case hend =>
    intro listed a w' H hr
    have hall := all_listed' H.sz (by kernel_rfl) hr
    have l41 : listed.getD 41 false = true := getD_tf (by rw [H.sz]; omega) (hall 41 (Nat.lt_of_lt_of_le (by omega : 41 < 43) (Nat.le_refl 43)))
    have l42 : listed.getD 42 false = true := getD_tf (by rw [H.sz]; omega) (hall 42 (Nat.lt_of_lt_of_le (by omega : 42 < 43) (Nat.le_refl 43)))
    obtain ⟨F, fb, bx, cx, bo, bd, bt, h6, hrow, hge, hN⟩ := H.post 41 (by omega) l41
    have h7 : a.tmps.getD 7 undef = .nilIface := H.post 42 (by omega) l42
    replace h6 : a.tmps.getD 6 undef = .pointer (some ⟨fb, 0, none⟩) := h6
    refine hK a w' ?_
    go_wp2
    (try simp only [Exit.inBlock, Exit.then])
    refine bodyPost_ret (fn := Ybaf.f5) (results_tmp2 rfl _ _ _) H.df ?_
    rw [h6, h7]
    rw [s3] at hge hN
    exact ⟨w1, F, fb, bx, cx, bo, bd, bt, rfl, unhide HfS, unhide HR, (unhide f13).trans H.fr, hrow, hge, hN, (unhide Hm3).fr H.fr (by simp) (by simp)⟩
  case hstep =>
    intro listed a w' i H hr
    have hi : i < 43 := ready_lt hr
    match i, hi with
    | 0, _ =>
      exact wpOp_val rfl rfl (ex_load rfl (by rw [show a.eval (.tmp 8) = _ from H.s8]; exact load_c6 w' w1.heap.size p0 p1 p2 p3 p4 p5 (H.fr.row (unhide rc4) (by simp)))) (H.put 0 (by omega) (Fr.refl [] _) rfl (fun h => by simp [rel] at h))
    | 1, _ =>
      exact wpOp_val rfl rfl (ex_move rfl) (H.put 1 (by omega) (Fr.refl [] _) H.s1 (fun h => by simp [rel] at h))
    | 2, _ =>
      refine wpOp_enter rfl rfl (ex_clone rfl) ?_
      have h1 : a.eval (.tmp 43) = .slice (some ⟨xb, 0, none⟩) 2 cxx := (H.post 1 (by omega) (ready_dep hr rfl ⟨⟨1, .data⟩, by simp, rfl, rfl⟩))
      rw [h1]
      refine (clone_any w' xb 2 cxx fx (H.fr.row (unhide x4) (by simp)) (by omega)).mono ?_
      rintro e w2 ⟨g, c, rfl, hv, hg, hf⟩
      exact ⟨_, rfl, H.put 2 (by omega) hf ⟨g, c, rfl, hv, Nat.le_trans H.fr.size hg⟩ (fun _ => hg)⟩
    | 3, _ =>
      exact wpOp_val rfl rfl (ex_move rfl) (H.put 3 (by omega) (Fr.refl [] _) H.s12 (fun h => by simp [rel] at h))
    | 4, _ =>
      exact wpOp_val rfl rfl (ex_move rfl) (H.put 4 (by omega) (Fr.refl [] _) H.s11 (fun h => by simp [rel] at h))
    | 5, _ =>
      exact wpOp_val rfl rfl (ex_make (n := 1) rfl (H.post 4 (by omega) (ready_dep hr rfl ⟨⟨4, .data⟩, by simp, rfl, rfl⟩)) (by omega)) (H.put 5 (by omega) ((Fr.refl [] _).alloc _) ⟨_, _, _, rfl⟩ (fun h => by simp [rel] at h))
    | 6, _ =>
      exact wpOp_val rfl rfl (ex_move rfl) (H.put 6 (by omega) (Fr.refl [] _) H.s11 (fun h => by simp [rel] at h))
    | 7, _ =>
      exact wpOp_val rfl rfl (ex_move rfl) (H.put 7 (by omega) (Fr.refl [] _) H.s11 (fun h => by simp [rel] at h))
    | 8, _ =>
      refine wpOp_enter rfl rfl (ex_new rfl) ?_
      have h1 : a.eval (.tmp 48) = .int .i64 1 := (H.post 6 (by omega) (ready_dep hr rfl ⟨⟨6, .data⟩, by simp, rfl, rfl⟩))
      have h2 : a.eval (.tmp 49) = .int .i64 1 := (H.post 7 (by omega) (ready_dep hr rfl ⟨⟨7, .data⟩, by simp, rfl, rfl⟩))
      rw [h1, h2]
      refine (new_any w' 1 1 ⟨.inl rfl, .inl rfl⟩).mono ?_
      rintro e w2 ⟨rfl, hm, hf, hs⟩
      exact ⟨_, rfl, H.put 8 (by omega) hf ⟨_, rfl⟩ (fun h => by simp [rel] at h)⟩
    | 9, _ =>
      exact wpOp_val rfl rfl (ex_move rfl) (H.put 9 (by omega) (Fr.refl [] _) H.s10 (fun h => by simp [rel] at h))
    | 10, _ =>
      exact wpOp_val rfl rfl (ex_make (n := 2) rfl (H.post 9 (by omega) (ready_dep hr rfl ⟨⟨9, .data⟩, by simp, rfl, rfl⟩)) (by omega)) (H.put 10 (by omega) ((Fr.refl [] _).alloc _) ⟨_, rfl, World.rowIs_made w' (.float .f64 0) 2 26, H.fr.size⟩ (fun _ => Nat.le_refl _))
    | 11, _ =>
      exact wpOp_val rfl rfl (ex_move rfl) (H.put 11 (by omega) (Fr.refl [] _) H.s11 (fun h => by simp [rel] at h))
    | 12, _ =>
      exact wpOp_val rfl rfl (ex_make (n := 1) rfl (H.post 11 (by omega) (ready_dep hr rfl ⟨⟨11, .data⟩, by simp, rfl, rfl⟩)) (by omega)) (H.put 12 (by omega) ((Fr.refl [] _).alloc _) ⟨_, _, _, rfl⟩ (fun h => by simp [rel] at h))
    | 13, _ =>
      exact wpOp_val rfl rfl (ex_move rfl) (H.put 13 (by omega) (Fr.refl [] _) H.s11 (fun h => by simp [rel] at h))
    | 14, _ =>
      exact wpOp_val rfl rfl (ex_make (n := 1) rfl (H.post 13 (by omega) (ready_dep hr rfl ⟨⟨13, .data⟩, by simp, rfl, rfl⟩)) (by omega)) (H.put 14 (by omega) ((Fr.refl [] _).alloc _) ⟨_, _, _, rfl⟩ (fun h => by simp [rel] at h))
    | 15, _ =>
      exact wpOp_val rfl rfl (ex_move rfl) (H.put 15 (by omega) (Fr.refl [] _) H.s10 (fun h => by simp [rel] at h))
    | 16, _ =>
      exact wpOp_val rfl rfl (ex_move rfl) (H.put 16 (by omega) (Fr.refl [] _) H.s10 (fun h => by simp [rel] at h))
    | 17, _ =>
      refine wpOp_enter rfl rfl (ex_new rfl) ?_
      have h1 : a.eval (.tmp 57) = .int .i64 2 := (H.post 15 (by omega) (ready_dep hr rfl ⟨⟨15, .data⟩, by simp, rfl, rfl⟩))
      have h2 : a.eval (.tmp 58) = .int .i64 2 := (H.post 16 (by omega) (ready_dep hr rfl ⟨⟨16, .data⟩, by simp, rfl, rfl⟩))
      rw [h1, h2]
      refine (new_any w' 2 2 ⟨.inr rfl, .inr rfl⟩).mono ?_
      rintro e w2 ⟨rfl, hm, hf, hs⟩
      exact ⟨_, rfl, H.put 17 (by omega) hf ⟨_, rfl, hm, H.fr.size⟩ (fun _ => by simp [bl])⟩
    | 18, _ =>
      exact wpOp_val rfl rfl (ex_move rfl) (H.put 18 (by omega) (Fr.refl [] _) H.s11 (fun h => by simp [rel] at h))
    | 19, _ =>
      exact wpOp_val rfl rfl (ex_move rfl) (H.put 19 (by omega) (Fr.refl [] _) H.s11 (fun h => by simp [rel] at h))
    | 20, _ =>
      refine wpOp_enter rfl rfl (ex_new rfl) ?_
      have h1 : a.eval (.tmp 60) = .int .i64 1 := (H.post 18 (by omega) (ready_dep hr rfl ⟨⟨18, .data⟩, by simp, rfl, rfl⟩))
      have h2 : a.eval (.tmp 61) = .int .i64 1 := (H.post 19 (by omega) (ready_dep hr rfl ⟨⟨19, .data⟩, by simp, rfl, rfl⟩))
      rw [h1, h2]
      refine (new_any w' 1 1 ⟨.inl rfl, .inl rfl⟩).mono ?_
      rintro e w2 ⟨rfl, hm, hf, hs⟩
      exact ⟨_, rfl, H.put 20 (by omega) hf ⟨_, rfl⟩ (fun h => by simp [rel] at h)⟩
    | 21, _ =>
      exact wpOp_val rfl rfl (ex_move rfl) (H.put 21 (by omega) (Fr.refl [] _) H.s11 (fun h => by simp [rel] at h))
    | 22, _ =>
      exact wpOp_val rfl rfl (ex_move rfl) (H.put 22 (by omega) (Fr.refl [] _) H.s11 (fun h => by simp [rel] at h))
    | 23, _ =>
      refine wpOp_enter rfl rfl (ex_new rfl) ?_
      have h1 : a.eval (.tmp 63) = .int .i64 1 := (H.post 21 (by omega) (ready_dep hr rfl ⟨⟨21, .data⟩, by simp, rfl, rfl⟩))
      have h2 : a.eval (.tmp 64) = .int .i64 1 := (H.post 22 (by omega) (ready_dep hr rfl ⟨⟨22, .data⟩, by simp, rfl, rfl⟩))
      rw [h1, h2]
      refine (new_any w' 1 1 ⟨.inl rfl, .inl rfl⟩).mono ?_
      rintro e w2 ⟨rfl, hm, hf, hs⟩
      exact ⟨_, rfl, H.put 23 (by omega) hf ⟨_, rfl⟩ (fun h => by simp [rel] at h)⟩
    | 24, _ =>
      exact wpOp_val rfl rfl (ex_move rfl) (H.put 24 (by omega) (Fr.refl [] _) H.s10 (fun h => by simp [rel] at h))
    | 25, _ =>
      exact wpOp_val rfl rfl (ex_move rfl) (H.put 25 (by omega) (Fr.refl [] _) H.s11 (fun h => by simp [rel] at h))
    | 26, _ =>
      refine wpOp_enter rfl rfl (ex_new rfl) ?_
      have h1 : a.eval (.tmp 66) = .int .i64 2 := (H.post 24 (by omega) (ready_dep hr rfl ⟨⟨24, .data⟩, by simp, rfl, rfl⟩))
      have h2 : a.eval (.tmp 67) = .int .i64 1 := (H.post 25 (by omega) (ready_dep hr rfl ⟨⟨25, .data⟩, by simp, rfl, rfl⟩))
      rw [h1, h2]
      refine (new_any w' 2 1 ⟨.inr rfl, .inl rfl⟩).mono ?_
      rintro e w2 ⟨rfl, hm, hf, hs⟩
      exact ⟨_, rfl, H.put 26 (by omega) hf ⟨_, rfl⟩ (fun h => by simp [rel] at h)⟩
    | 27, _ =>
      exact wpOp_val rfl rfl (ex_move rfl) (H.put 27 (by omega) (Fr.refl [] _) H.s11 (fun h => by simp [rel] at h))
    | 28, _ =>
      exact wpOp_val rfl rfl (ex_move rfl) (H.put 28 (by omega) (Fr.refl [] _) H.s10 (fun h => by simp [rel] at h))
    | 29, _ =>
      refine wpOp_enter rfl rfl (ex_new rfl) ?_
      have h1 : a.eval (.tmp 69) = .int .i64 1 := (H.post 27 (by omega) (ready_dep hr rfl ⟨⟨27, .data⟩, by simp, rfl, rfl⟩))
      have h2 : a.eval (.tmp 70) = .int .i64 2 := (H.post 28 (by omega) (ready_dep hr rfl ⟨⟨28, .data⟩, by simp, rfl, rfl⟩))
      rw [h1, h2]
      refine (new_any w' 1 2 ⟨.inl rfl, .inr rfl⟩).mono ?_
      rintro e w2 ⟨rfl, hm, hf, hs⟩
      exact ⟨_, rfl, H.put 29 (by omega) hf ⟨_, rfl⟩ (fun h => by simp [rel] at h)⟩
    | 30, _ =>
      exact wpOp_val rfl rfl (ex_move rfl) (H.put 30 (by omega) (Fr.refl [] _) H.s10 (fun h => by simp [rel] at h))
    | 31, _ =>
      exact wpOp_val rfl rfl (ex_move rfl) (H.put 31 (by omega) (Fr.refl [] _) H.s10 (fun h => by simp [rel] at h))
    | 32, _ =>
      refine wpOp_enter rfl rfl (ex_new rfl) ?_
      have h1 : a.eval (.tmp 72) = .int .i64 2 := (H.post 30 (by omega) (ready_dep hr rfl ⟨⟨30, .data⟩, by simp, rfl, rfl⟩))
      have h2 : a.eval (.tmp 73) = .int .i64 2 := (H.post 31 (by omega) (ready_dep hr rfl ⟨⟨31, .data⟩, by simp, rfl, rfl⟩))
      rw [h1, h2]
      refine (new_any w' 2 2 ⟨.inr rfl, .inr rfl⟩).mono ?_
      rintro e w2 ⟨rfl, hm, hf, hs⟩
      exact ⟨_, rfl, H.put 32 (by omega) hf ⟨_, rfl, hm, H.fr.size⟩ (fun _ => by simp [bl])⟩
    | 33, _ =>
      exact wpOp_val rfl rfl (ex_move rfl) (H.put 33 (by omega) (Fr.refl [] _) H.s10 (fun h => by simp [rel] at h))
    | 34, _ =>
      exact wpOp_val rfl rfl (ex_move rfl) (H.put 34 (by omega) (Fr.refl [] _) H.s10 (fun h => by simp [rel] at h))
    | 35, _ =>
      refine wpOp_enter rfl rfl (ex_new rfl) ?_
      have h1 : a.eval (.tmp 75) = .int .i64 2 := (H.post 33 (by omega) (ready_dep hr rfl ⟨⟨33, .data⟩, by simp, rfl, rfl⟩))
      have h2 : a.eval (.tmp 76) = .int .i64 2 := (H.post 34 (by omega) (ready_dep hr rfl ⟨⟨34, .data⟩, by simp, rfl, rfl⟩))
      rw [h1, h2]
      refine (new_any w' 2 2 ⟨.inr rfl, .inr rfl⟩).mono ?_
      rintro e w2 ⟨rfl, hm, hf, hs⟩
      exact ⟨_, rfl, H.put 35 (by omega) hf ⟨_, rfl⟩ (fun h => by simp [rel] at h)⟩
    | 36, _ =>
      exact wpOp_val rfl rfl (ex_move rfl) (H.put 36 (by omega) (Fr.refl [] _) H.s10 (fun h => by simp [rel] at h))
    | 37, _ =>
      exact wpOp_val rfl rfl (ex_move rfl) (H.put 37 (by omega) (Fr.refl [] _) H.s10 (fun h => by simp [rel] at h))
    | 38, _ =>
      refine wpOp_enter rfl rfl (ex_new rfl) ?_
      have h1 : a.eval (.tmp 78) = .int .i64 2 := (H.post 36 (by omega) (ready_dep hr rfl ⟨⟨36, .data⟩, by simp, rfl, rfl⟩))
      have h2 : a.eval (.tmp 79) = .int .i64 2 := (H.post 37 (by omega) (ready_dep hr rfl ⟨⟨37, .data⟩, by simp, rfl, rfl⟩))
      rw [h1, h2]
      refine (new_any w' 2 2 ⟨.inr rfl, .inr rfl⟩).mono ?_
      rintro e w2 ⟨rfl, hm, hf, hs⟩
      exact ⟨_, rfl, H.put 38 (by omega) hf ⟨_, rfl⟩ (fun h => by simp [rel] at h)⟩
    | 39, _ =>
      have h0 : a.eval (.tmp 42) = .agg #[.pointer p0, .pointer p1, .pointer p2, .pointer p3, .pointer p4, .pointer p5] := (H.post 0 (by omega) (ready_dep hr rfl ⟨⟨0, .data⟩, by simp, rfl, rfl⟩))
      obtain ⟨bx, cx, h2, v2', g2⟩ := (H.post 2 (by omega) (ready_dep hr rfl ⟨⟨2, .data⟩, by simp, rfl, rfl⟩))
      have h3 : a.eval (.tmp 45) = .pointer (some ⟨w1.heap.size + 1 + 1, 0, none⟩) := (H.post 3 (by omega) (ready_dep hr rfl ⟨⟨3, .data⟩, by simp, rfl, rfl⟩))
      obtain ⟨a5, n5', c5', h5⟩ := (H.post 5 (by omega) (ready_dep hr rfl ⟨⟨5, .data⟩, by simp, rfl, rfl⟩))
      obtain ⟨a12, n12', c12', h12⟩ := (H.post 12 (by omega) (ready_dep hr rfl ⟨⟨12, .data⟩, by simp, rfl, rfl⟩))
      obtain ⟨a14, n14', c14', h14⟩ := (H.post 14 (by omega) (ready_dep hr rfl ⟨⟨14, .data⟩, by simp, rfl, rfl⟩))
      obtain ⟨bo, h10, v10, g10⟩ := (H.post 10 (by omega) (ready_dep hr rfl ⟨⟨10, .data⟩, by simp, rfl, rfl⟩))
      obtain ⟨q8, h8⟩ := (H.post 8 (by omega) (ready_dep hr rfl ⟨⟨8, .data⟩, by simp, rfl, rfl⟩))
      obtain ⟨q20, h20⟩ := (H.post 20 (by omega) (ready_dep hr rfl ⟨⟨20, .data⟩, by simp, rfl, rfl⟩))
      obtain ⟨q23, h23⟩ := (H.post 23 (by omega) (ready_dep hr rfl ⟨⟨23, .data⟩, by simp, rfl, rfl⟩))
      obtain ⟨q26, h26⟩ := (H.post 26 (by omega) (ready_dep hr rfl ⟨⟨26, .data⟩, by simp, rfl, rfl⟩))
      obtain ⟨q29, h29⟩ := (H.post 29 (by omega) (ready_dep hr rfl ⟨⟨29, .data⟩, by simp, rfl, rfl⟩))
      obtain ⟨q35, h35⟩ := (H.post 35 (by omega) (ready_dep hr rfl ⟨⟨35, .data⟩, by simp, rfl, rfl⟩))
      obtain ⟨q38, h38⟩ := (H.post 38 (by omega) (ready_dep hr rfl ⟨⟨38, .data⟩, by simp, rfl, rfl⟩))
      obtain ⟨b17, h17, v17, g17⟩ := (H.post 17 (by omega) (ready_dep hr rfl ⟨⟨17, .data⟩, by simp, rfl, rfl⟩))
      obtain ⟨b32, h32, v32, g32⟩ := (H.post 32 (by omega) (ready_dep hr rfl ⟨⟨32, .data⟩, by simp, rfl, rfl⟩))
      have x1 := H.dist 2 10 (by simp [rel]) (by simp [rel]) (by omega) (ready_dep hr rfl ⟨⟨2, .data⟩, by simp, rfl, rfl⟩) (ready_dep hr rfl ⟨⟨10, .data⟩, by simp, rfl, rfl⟩)
      have x2 := H.dist 2 17 (by simp [rel]) (by simp [rel]) (by omega) (ready_dep hr rfl ⟨⟨2, .data⟩, by simp, rfl, rfl⟩) (ready_dep hr rfl ⟨⟨17, .data⟩, by simp, rfl, rfl⟩)
      have x3 := H.dist 2 32 (by simp [rel]) (by simp [rel]) (by omega) (ready_dep hr rfl ⟨⟨2, .data⟩, by simp, rfl, rfl⟩) (ready_dep hr rfl ⟨⟨32, .data⟩, by simp, rfl, rfl⟩)
      have x4 := H.dist 10 17 (by simp [rel]) (by simp [rel]) (by omega) (ready_dep hr rfl ⟨⟨10, .data⟩, by simp, rfl, rfl⟩) (ready_dep hr rfl ⟨⟨17, .data⟩, by simp, rfl, rfl⟩)
      have x5 := H.dist 10 32 (by simp [rel]) (by simp [rel]) (by omega) (ready_dep hr rfl ⟨⟨10, .data⟩, by simp, rfl, rfl⟩) (ready_dep hr rfl ⟨⟨32, .data⟩, by simp, rfl, rfl⟩)
      have x6 := H.dist 17 32 (by simp [rel]) (by simp [rel]) (by omega) (ready_dep hr rfl ⟨⟨17, .data⟩, by simp, rfl, rfl⟩) (ready_dep hr rfl ⟨⟨32, .data⟩, by simp, rfl, rfl⟩)
      rw [h2, h10] at x1
      rw [h2, h17] at x2
      rw [h2, h32] at x3
      rw [h10, h17] at x4
      rw [h10, h32] at x5
      rw [h17, h32] at x6
      simp only [bl, Nat.add_sub_cancel] at x1 x2 x3 x4 x5 x6
      replace h2 : a.eval (.tmp 44) = _ := h2
      replace h5 : a.eval (.tmp 47) = _ := h5
      replace h8 : a.eval (.tmp 50) = _ := h8
      replace h10 : a.eval (.tmp 52) = _ := h10
      replace h12 : a.eval (.tmp 54) = _ := h12
      replace h14 : a.eval (.tmp 56) = _ := h14
      replace h17 : a.eval (.tmp 59) = _ := h17
      replace h20 : a.eval (.tmp 62) = _ := h20
      replace h23 : a.eval (.tmp 65) = _ := h23
      replace h26 : a.eval (.tmp 68) = _ := h26
      replace h29 : a.eval (.tmp 71) = _ := h29
      replace h32 : a.eval (.tmp 74) = _ := h32
      replace h35 : a.eval (.tmp 77) = _ := h35
      replace h38 : a.eval (.tmp 80) = _ := h38
      refine wpOp_val rfl rfl (ex_build rfl (v := .agg (fil p0 p1 p2 p3 p4 p5 (some ⟨bx, 0, none⟩) 2 cx (some ⟨w1.heap.size + 1 + 1, 0, none⟩) a5 n5' c5' q8 (some ⟨bo, 0, none⟩) 2 2 a12 n12' c12' a14 n14' c14' (some ⟨b17 + 1, 0, none⟩) q20 q23 q26 q29 (some ⟨b32 + 1, 0, none⟩) q35 q38)) ?_) (H.put 39 (by omega) (Fr.refl [] _) ⟨_, fun k => (fil p0 p1 p2 p3 p4 p5 (some ⟨bx, 0, none⟩) 2 cx (some ⟨w1.heap.size + 1 + 1, 0, none⟩) a5 n5' c5' q8 (some ⟨bo, 0, none⟩) 2 2 a12 n12' c12' a14 n14' c14' (some ⟨b17 + 1, 0, none⟩) q20 q23 q26 q29 (some ⟨b32 + 1, 0, none⟩) q35 q38).getD k undef, bx, cx, bo, b17, b32, rfl, ⟨_, _, _, _, _, _, _, _, _, _, _, _, _, _, _, _, _, _, _, _, _, _, _, _, _, _, _, _, _, _, _, rfl⟩, { c0 := rfl, c1 := rfl, c2 := rfl, c3 := rfl, c4 := rfl, c5 := rfl, x := rfl, p := rfl, run := rfl, xn := rfl, pn := rfl, tmp := rfl, vx := v2', vo := v10, md := v17, mt := v32, g1 := g2, g2 := g10, g3 := g17, g4 := g32, n1 := x1, n2 := x2, n3 := x3, n4 := x4, n5 := x5, n6 := x6 }, rfl, getD_some _⟩ (fun h => by simp [rel] at h))
      simp only [List.map_toArray, List.map_cons, List.map_nil, h0, h2, h3, h5, h8, h10, h12, h14, h17, h20, h23, h26, h29, h32, h35, h38]
      exact run_build w' p0 p1 p2 p3 p4 p5 (some ⟨bx, 0, none⟩) 2 cx (some ⟨w1.heap.size + 1 + 1, 0, none⟩) a5 n5' c5' q8 (some ⟨bo, 0, none⟩) 2 2 a12 n12' c12' a14 n14' c14' (some ⟨b17 + 1, 0, none⟩) q20 q23 q26 q29 (some ⟨b32 + 1, 0, none⟩) q35 q38
    | 40, _ =>
      obtain ⟨cs, F, bx, cx, bo, bd, bt, hv, hfil, hN, hsz, hcs⟩ := (H.post 39 (by omega) (ready_dep hr rfl ⟨⟨39, .data⟩, by simp, rfl, rfl⟩))
      obtain ⟨r0, r1, r2, r3, r4, r5, a6, n6, c6', p7, a9, n9, c9, p10, a14, n14, c14, a15, n15, c15, a16, n16, c16, p17, p18, p19, p20, p21, p22, p23, p24, hfe⟩ := hfil
      replace hv : a.eval (.tmp 81) = _ := hv
      refine wpOp_val rfl rfl (ex_box (w' := w'.alloc (.cells cs 47)) (v := .pointer (some ⟨w'.heap.size, 0, none⟩)) rfl ?_) (H.put 40 (by omega) ((Fr.refl [] _).alloc _) ⟨F, w'.heap.size, bx, cx, bo, bd, bt, rfl, ?_, H.fr.size, hN.mv ((Fr.refl [] _).alloc _)⟩ (fun h => by simp [rel] at h))
      · rw [hv, hfe]
        exact run_box w' _ _ _ _ _ _ _ _ _ _ _ _ _ _ _ _ _ _ _ _ _ _ _ _ _ _ _ _ _ _ _
      · have := World.rowIs_alloc w' cs 47 F hcs
        rw [hsz] at this
        exact this
    | 41, _ =>
      exact wpOp_val rfl rfl (ex_assign rfl) (H.put 41 (by omega) (Fr.refl [] _) (H.post 40 (by omega) (ready_dep hr rfl ⟨⟨40, .data⟩, by simp, rfl, rfl⟩)) (fun h => by simp [rel] at h))
    | 42, _ =>
      exact wpOp_val rfl rfl (ex_assign rfl) (H.put 42 (by omega) (Fr.refl [] _) rfl (fun h => by simp [rel] at h))
    | k + 43, h => exact absurd h (by omega)
end Go.Proofs.YbulkaotqFmt.Wk
