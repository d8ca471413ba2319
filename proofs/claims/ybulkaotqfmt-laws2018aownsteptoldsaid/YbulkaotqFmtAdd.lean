/-
  'recording.add' (24).
-/
import Derived.Test.YbulkaotqFmtRecd
namespace Go.Proofs.YbulkaotqFmt.Wk
open Go.RowKit Fl

/-- append of make: nothing. -/
theorem append_make0 (w : World) (ty : TypeId) : (Builtin.append_ #[27, 3] ty #[.slice none 0 0, .int .i64 0]).run Ybaf.prog w = .ok (.slice none 0 0) w := by
  obtain ⟨i0, hi, hz0, hz1, hz2⟩ := info_parts info26
  have hw : IntKind.i64.wrap 0 = 0 := by decide
  simp [Builtin.append_, run_underlying Ybaf.underlying27, run_underlying Ybaf.underlying3, sizeOf, typeInfo, hi, asInt, asIntOf, hw]
/-- .. and one zero. -/
theorem append_make1 (w : World) (ty : TypeId) : (Builtin.append_ #[27, 3] ty #[.slice none 0 0, .int .i64 1]).run Ybaf.prog w =
    .ok (.slice (some ⟨w.heap.size, 0, none⟩) 1 (grownCap w 1 0 26)) (w.drew.alloc (.cells (#[.float .f64 0] ++ Builtin.zeroCells #[.float .f64 0] (grownCap w 1 0 26 - 1)) 26)) := by
  obtain ⟨i0, hi, hz0, hz1, hz2⟩ := info_parts info26
  have hw : IntKind.i64.wrap 1 = 1 := by decide
  have hc : (Value.float FloatKind.f64 0).cells = #[.float .f64 0] := rfl
  have hzc : Builtin.zeroCells #[.float .f64 0] 1 = #[.float .f64 0] := by first | kernel_rfl | (unfold Builtin.zeroCells; simp [Array.range, Array.ofFn]; rfl) | (apply Array.ext'; simp [Builtin.zeroCells]; rfl)
  have h1 : Builtin.nextslicecap 1 0 = 1 := rfl
  simp [Builtin.append_, run_underlying Ybaf.underlying27, run_underlying Ybaf.underlying3, sizeOf, typeInfo, zeroValue, hi, hz0, hz1, hz2, asInt, asIntOf, hw, Question.forced, newRow, grownCap, hc, hzc, h1, Builtin.firstCells]
  intro h
  exact absurd h (by decide)

/-- What is told of the control input and what is kept of it. -/
def UIn (w : World) (k : Nat) (vu : Value) (x : Nat) : Prop := (k = 0 ∧ vu = nilS) ∨ (k = 1 ∧ vu = nilS ∧ x = 0) ∨ (k = 1 ∧ ∃ b c f, vu = .slice (some ⟨b, 0, none⟩) 1 c ∧ Vec w b 1 c f ∧ f 0 = x)
def UOut (w : World) (B k : Nat) (vu : Value) (x : Nat) : Prop := (k = 0 ∧ vu = nilS) ∨ (k = 1 ∧ ∃ b c, B ≤ b ∧ vu = .slice (some ⟨b, 0, none⟩) 1 c ∧ Vec w b 1 c (fun _ => x))
theorem Vec.set {w : World} {g n c : Nat} {f : Nat → Nat} (h : Vec w g n c f) {a : Addr} (ha : g ≠ a.block) (v : Value) : Vec (w.setCell a v) g n c f := by
  obtain ⟨F, h1, h2, h3⟩ := h
  exact ⟨F, h1.setOther ha _, h2, h3⟩
theorem Vec.alloc {w : World} {g n c : Nat} {f : Nat → Nat} (h : Vec w g n c f) (o : Obj) : Vec (w.alloc o) g n c f := by
  obtain ⟨F, h1, h2, h3⟩ := h
  exact ⟨F, h1.alloc _, h2, h3⟩
theorem made_vec (w : World) (C : Nat) (h : 1 ≤ C) : Vec (w.alloc (.cells (#[.float .f64 0] ++ Builtin.zeroCells #[.float .f64 0] (C - 1)) 26)) w.heap.size 1 C (fun _ => 0) := by
  have hs : (#[Value.float .f64 0] ++ Builtin.zeroCells #[.float .f64 0] (C - 1)).size = C := by simp [Builtin.zeroCells]; omega
  have hr := World.rowIs_alloc w (#[Value.float .f64 0] ++ Builtin.zeroCells #[.float .f64 0] (C - 1)) 26 (fun i => (#[Value.float .f64 0] ++ Builtin.zeroCells #[.float .f64 0] (C - 1))[i]?.getD undef) (by
    intro i hi
    rw [Array.getElem?_eq_getElem hi]
    rfl)
  rw [hs] at hr
  refine ⟨_, hr, h, fun i hi => ?_⟩
  match i, hi with
  | 0, _ => rw [Array.getElem?_append_left (by simp)]; rfl
theorem updV_self (F : Nat → Value) (i : Nat) (v : Value) : updV F i v i = v := by unfold updV; rw [if_pos rfl]

set_option maxRecDepth 100000 in
set_option maxHeartbeats 2000000 in
theorem add_any (w : World) (rb k bx cx dp bp t x : Nat) (fx fp : Nat → Nat) (vu : Value) (hr : w.rowIs rb 50 6 (rv 2 k nilS nilS nilS nilS)) (hx : Vec w bx 2 cx fx) (mp : Mat w dp 2 2 bp fp) (hu : UIn w k vu x) :
    Calls Ybaf.prog 24 #[.pointer (some ⟨rb, 0, none⟩), .slice (some ⟨bx, 0, none⟩) 2 cx, .pointer (some ⟨dp, 0, none⟩), .float .f64 t, vu] w fun e w' => e = .returned (.tuple #[]) ∧ Fr [rb] w w' ∧
      ∃ gx ex gp ep gt et v, w'.rowIs rb 50 6 (rv 2 k (.slice (some ⟨gx, 0, none⟩) 2 ex) (.slice (some ⟨gp, 0, none⟩) 4 ep) (.slice (some ⟨gt, 0, none⟩) 1 et) v) ∧ Vec w' gx 2 ex fx ∧ Vec w' gp 4 ep fp ∧ Vec w' gt 1 et (fun _ => t) ∧ UOut w' w.heap.size k v x := by
  have c2 : w.cell? ⟨rb, 2, none⟩ = some (.slice none 0 0) := hr.cell (i := 2) (by omega)
  have f2 := hr.frozen 2
  have Hr := hide hr
  have Hx := hide hx
  have Hp := hide mp
  have Hu := hide hu
  have hlt := hr.lt
  obtain ⟨i0, hi, hz0, hz1, hz2⟩ := info_parts info26
  clear hr hx mp hu
  go_enter Ybaf.func24, Ybaf.ntmps24
  have hown := World.ownsRow_nil w w.heap.size 26 1
  go_wp2_with (at_builtin; refine wpList_append_own _ rfl _ _ 27 rfl w.heap.size 26 i0 (.float .f64 0) 1 8 Ybaf.underlying27 hi hz0 hz1 hz2 rfl (by decide) _ 0 [] rfl hown ⟨bx, 0, none⟩ 2 cx ((List.range 2).map (fv fx)) rfl (by simp) ?c1 ?c2 ?c3 ?c4 ?c5 ?_)
  case c1 =>
    intro j u hu
    have hj : j < 2 := by
      by_cases hj : j < 2
      · exact hj
      · simp [hj] at hu
    simp [hj] at hu
    subst hu
    rw [Go.WideShapes.add_plain, Nat.zero_add]
    exact (unhide Hx).cell hj
  case c2 =>
    intro v hv
    simp only [List.mem_map] at hv
    obtain ⟨i, _, rfl⟩ := hv
    rfl
  case c3 => unfold maxLen; omega
  case c4 => omega
  case c5 => simp
  intro v' w1 hown' hgrow hnil
  obtain ⟨gx, ex, Fx, rfl, hrow, hnc, hf, hg⟩ := row_of_own (n := 2) (g0 := fv fx) hown' hnil
  have hfr : Fr [] w w1 := (Fr.refl [] w).grown hgrow (by intro k hk; simp [Value.ownBlock] at hk)
  have vx : Vec w1 gx 2 ex fx := ⟨Fx, hrow, hnc, hf⟩
  have r1 : (w1.setCell ⟨rb, 2, none⟩ (.slice (some ⟨gx, 0, none⟩) 2 ex)).rowIs rb 50 6 (rv 2 k (.slice (some ⟨gx, 0, none⟩) 2 ex) nilS nilS nilS) := ((hfr.row (unhide Hr) (by simp)).set 2 (.slice (some ⟨gx, 0, none⟩) 2 ex)).congr (by
    intro i hi
    match i, hi with
    | 0, _ => rfl
    | 1, _ => rfl
    | 2, _ => rfl
    | 3, _ => rfl
    | 4, _ => rfl
    | 5, _ => rfl
    | i + 6, h => exact absurd h (by simp))
  have F1 : Fr [rb] w (w1.setCell ⟨rb, 2, none⟩ (.slice (some ⟨gx, 0, none⟩) 2 ex)) := (hfr.mono (T := [rb]) (by simp)).setCell (.inl (by simp)) _
  have nx : gx ≠ rb := by omega
  have vx1 : Vec (w1.setCell ⟨rb, 2, none⟩ (.slice (some ⟨gx, 0, none⟩) 2 ex)) gx 2 ex fx := ⟨Fx, hrow.setOther nx _, hnc, hf⟩
  have c2' : w1.cell? ⟨rb, 2, none⟩ = some (.slice none 0 0) := (hfr.row (unhide Hr) (by simp)).cell (i := 2) (by omega)
  have f2' : w1.frozen? ⟨rb, 2, none⟩ = false := (hfr.row (unhide Hr) (by simp)).frozen 2
  have c3 : (w1.setCell ⟨rb, 2, none⟩ (.slice (some ⟨gx, 0, none⟩) 2 ex)).cell? ⟨rb, 3, none⟩ = some (.slice none 0 0) := r1.cell (i := 3) (by omega)
  have c4 : (w1.setCell ⟨rb, 2, none⟩ (.slice (some ⟨gx, 0, none⟩) 2 ex)).cell? ⟨rb, 4, none⟩ = some (.slice none 0 0) := r1.cell (i := 4) (by omega)
  have f3 := r1.frozen 3
  have f4 := r1.frozen 4
  have m1 := (unhide Hp).fr F1 (by simpa using row_ne (unhide Hp).head (unhide Hr) (by decide)) (by simpa using row_ne (unhide Hp).data (unhide Hr) (by decide))
  have HR1 := hide r1
  have HF1 := hide F1
  have HX1 := hide vx1
  have HM1 := hide m1
  clear hown hown' hgrow hnil hrow hnc hf hfr vx r1 F1 vx1 c2 f2 m1
  go_wp2_with fail
  refine (entries_any _ dp 2 2 bp fp (unhide HM1) 4 rfl (by omega) (by omega)).mono ?_
  rintro e w2 ⟨gp, ep, rfl, hvp, hgp, hfr⟩
  have r2 : w2.rowIs rb 50 6 (rv 2 k (.slice (some ⟨gx, 0, none⟩) 2 ex) nilS nilS nilS) := hfr.row (unhide HR1) (by simp)
  have np : gp ≠ rb := by have := (unhide HF1).size; omega
  have r3 : (w2.setCell ⟨rb, 3, none⟩ (.slice (some ⟨gp, 0, none⟩) 4 ep)).rowIs rb 50 6 (rv 2 k (.slice (some ⟨gx, 0, none⟩) 2 ex) (.slice (some ⟨gp, 0, none⟩) 4 ep) nilS nilS) := (r2.set 3 (.slice (some ⟨gp, 0, none⟩) 4 ep)).congr (by
    intro i hi
    match i, hi with
    | 0, _ => rfl
    | 1, _ => rfl
    | 2, _ => rfl
    | 3, _ => rfl
    | 4, _ => rfl
    | 5, _ => rfl
    | i + 6, h => exact absurd h (by simp))
  have F2 : Fr [rb] w (w2.setCell ⟨rb, 3, none⟩ (.slice (some ⟨gp, 0, none⟩) 4 ep)) := ((unhide HF1).trans (hfr.mono (T := [rb]) (by simp))).setCell (.inl (by simp)) _
  have vx2 : Vec (w2.setCell ⟨rb, 3, none⟩ (.slice (some ⟨gp, 0, none⟩) 4 ep)) gx 2 ex fx := by
    obtain ⟨f, h1, h2, h3⟩ := (unhide HX1).fr hfr (by simp)
    exact ⟨f, h1.setOther nx _, h2, h3⟩
  have vp2 : Vec (w2.setCell ⟨rb, 3, none⟩ (.slice (some ⟨gp, 0, none⟩) 4 ep)) gp 4 ep fp := by
    obtain ⟨f, h1, h2, h3⟩ := hvp
    exact ⟨f, h1.setOther np _, h2, h3⟩
  have d3 : w2.cell? ⟨rb, 3, none⟩ = some (.slice none 0 0) := r2.cell (i := 3) (by omega)
  have d3' : w2.frozen? ⟨rb, 3, none⟩ = false := r2.frozen 3
  have d4 : (w2.setCell ⟨rb, 3, none⟩ (.slice (some ⟨gp, 0, none⟩) 4 ep)).cell? ⟨rb, 4, none⟩ = some (.slice none 0 0) := r3.cell (i := 4) (by omega)
  have d4' := r3.frozen 4
  have hl2 : rb < w2.heap.size := r2.lt
  have Hr3 := hide r3
  have HF2 := hide F2
  have HX2 := hide vx2
  have HP2 := hide vp2
  clear r2 r3 F2 vx2 vp2 hfr hvp c2' f2' c3 c4 f3 f4
  have hal : ((w2.setCell ⟨rb, 3, none⟩ (.slice (some ⟨gp, 0, none⟩) 4 ep)).alloc (.cells #[.float .f64 t] 26)).cell? ⟨w2.heap.size, 0, none⟩ = some (.float .f64 t) := by
    have h := (World.rowIs_alloc (w2.setCell ⟨rb, 3, none⟩ (.slice (some ⟨gp, 0, none⟩) 4 ep)) #[.float .f64 t] 26 (fun _ => .float .f64 t) (by
      intro i hi
      match i, hi with
      | 0, _ => rfl
      | i + 1, h => exact absurd h (by simp))).cell (i := 0) (by simp)
    have e : (w2.setCell ⟨rb, 3, none⟩ (.slice (some ⟨gp, 0, none⟩) 4 ep)).heap.size = w2.heap.size := by simp
    rw [e] at h
    exact h
  have Hal := hide hal
  clear hal
  have hown := World.ownsRow_nil ((w2.setCell ⟨rb, 3, none⟩ (.slice (some ⟨gp, 0, none⟩) 4 ep)).alloc (.cells #[.float .f64 t] 26)) w2.heap.size 26 1
  go_wp2_with (at_builtin; refine wpList_append_own _ rfl _ _ 27 rfl w2.heap.size 26 i0 (.float .f64 0) 1 8 Ybaf.underlying27 hi hz0 hz1 hz2 rfl (by decide) _ 0 [] rfl hown ⟨w2.heap.size, 0, none⟩ 1 1 [.float .f64 t] rfl (by simp) ?c1 ?c2 ?c3 ?c4 ?c5 ?_)
  case c1 =>
    intro j u hu
    match j, hu with
    | 0, hu =>
      simp at hu
      subst hu
      exact unhide Hal
    | j + 1, hu => simp at hu
  case c2 =>
    intro v hv
    simp only [List.mem_singleton] at hv
    subst hv
    rfl
  case c3 => unfold maxLen; omega
  case c4 => omega
  case c5 => simp
  intro v' w3 hown' hgrow hnil
  obtain ⟨gt, et, Ft, rfl, hrow, hnc, hf, hgt⟩ := row_of_own (n := 1) (g0 := fun _ => .float .f64 t) hown' hnil
  have hfr : Fr [] (w2.setCell ⟨rb, 3, none⟩ (.slice (some ⟨gp, 0, none⟩) 4 ep)) w3 := ((Fr.refl [] _).alloc _).grown hgrow (by intro k hk; simp [Value.ownBlock] at hk)
  have r4 := hfr.row (unhide Hr3) (by simp)
  have nt : gt ≠ rb := by omega
  have r5 : (w3.setCell ⟨rb, 4, none⟩ (.slice (some ⟨gt, 0, none⟩) 1 et)).rowIs rb 50 6 (rv 2 k (.slice (some ⟨gx, 0, none⟩) 2 ex) (.slice (some ⟨gp, 0, none⟩) 4 ep) (.slice (some ⟨gt, 0, none⟩) 1 et) nilS) := (r4.set 4 (.slice (some ⟨gt, 0, none⟩) 1 et)).congr (by
    intro i hi
    match i, hi with
    | 0, _ => rfl
    | 1, _ => rfl
    | 2, _ => rfl
    | 3, _ => rfl
    | 4, _ => rfl
    | 5, _ => rfl
    | i + 6, h => exact absurd h (by simp))
  have F3 : Fr [rb] w (w3.setCell ⟨rb, 4, none⟩ (.slice (some ⟨gt, 0, none⟩) 1 et)) := ((unhide HF2).trans (hfr.mono (T := [rb]) (by simp))).setCell (.inl (by simp)) _
  have vx3 : Vec (w3.setCell ⟨rb, 4, none⟩ (.slice (some ⟨gt, 0, none⟩) 1 et)) gx 2 ex fx := by
    obtain ⟨f, h1, h2, h3⟩ := (unhide HX2).fr hfr (by simp)
    exact ⟨f, h1.setOther nx _, h2, h3⟩
  have vp3 : Vec (w3.setCell ⟨rb, 4, none⟩ (.slice (some ⟨gt, 0, none⟩) 1 et)) gp 4 ep fp := by
    obtain ⟨f, h1, h2, h3⟩ := (unhide HP2).fr hfr (by simp)
    exact ⟨f, h1.setOther np _, h2, h3⟩
  have vt3 : Vec (w3.setCell ⟨rb, 4, none⟩ (.slice (some ⟨gt, 0, none⟩) 1 et)) gt 1 et (fun _ => t) := ⟨Ft, hrow.setOther nt _, hnc, hf⟩
  have e4 : w3.cell? ⟨rb, 4, none⟩ = some (.slice none 0 0) := r4.cell (i := 4) (by omega)
  have e4' : w3.frozen? ⟨rb, 4, none⟩ = false := r4.frozen 4
  have e5 : (w3.setCell ⟨rb, 4, none⟩ (.slice (some ⟨gt, 0, none⟩) 1 et)).cell? ⟨rb, 5, none⟩ = some (.slice none 0 0) := r5.cell (i := 5) (by omega)
  have e1 : (w3.setCell ⟨rb, 4, none⟩ (.slice (some ⟨gt, 0, none⟩) 1 et)).cell? ⟨rb, 1, none⟩ = some (.int .i64 k) := r5.cell (i := 1) (by omega)
  have e5' := r5.frozen 5
  have hl3 : rb < w3.heap.size := r4.lt
  have Hr5 := hide r5
  have HF3 := hide F3
  have HX3 := hide vx3
  have HP3 := hide vp3
  have HT3 := hide vt3
  clear r4 r5 F3 vx3 vp3 vt3 hfr hrow hnc hf hown hown' hgrow hnil d3 d3' d4 d4'
  rcases unhide Hu with ⟨rfl, rfl⟩ | ⟨rfl, rfl, rfl⟩ | ⟨rfl, b, c, f, rfl, vU, rfl⟩
  · have hw0 : IntKind.i64.wrap 0 = 0 := by decide
    unfold nilS
    go_wp2
    go_region
    all_goals go_wp2
    all_goals go_end0
    refine ⟨rfl, ((unhide HF3).setCell (.inl (by simp)) _).drew, gx, ex, gp, ep, gt, et, nilS, ((unhide Hr5).set 5 nilS).congr (by
      intro i hi
      match i, hi with
      | 0, _ => rfl
      | 1, _ => rfl
      | 2, _ => rfl
      | 3, _ => rfl
      | 4, _ => rfl
      | 5, _ => rfl
      | i + 6, h => exact absurd h (by simp)), (unhide HX3).set nx _, (unhide HP3).set np _, (unhide HT3).set nt _, .inl ⟨rfl, rfl⟩⟩
  · have hw1 : IntKind.i64.wrap 1 = 1 := by decide
    have hzc : Builtin.zeroCells #[.float .f64 0] 1 = #[.float .f64 0] := by kernel_rfl
    have h1 : Builtin.nextslicecap 1 0 = 1 := rfl
    have hmax : max (1 : Int) 0 = 1 := by decide
    have hb8 : Ybaf.t26.bytes = 8 := rfl
    unfold nilS
    go_wp2
    go_region
    all_goals go_wp2
    all_goals go_end0
    have hC : 1 ≤ (Question.appendCap 1 0 26).cut (w3.tape (w3.drawn + 1) (Question.appendCap 1 0 26)) := grownCap_ge w3.drew 1 0 26
    generalize (Question.appendCap 1 0 26).cut (w3.tape (w3.drawn + 1) (Question.appendCap 1 0 26)) = C at hC ⊢
    have hs : ((w3.setCell ⟨rb, 4, none⟩ (.slice (some ⟨gt, 0, none⟩) 1 et)).setCell ⟨rb, 5, none⟩ (.slice (some ⟨w3.heap.size, 0, none⟩) 1 C)).heap.size = w3.heap.size := by simp
    have hV := made_vec ((w3.setCell ⟨rb, 4, none⟩ (.slice (some ⟨gt, 0, none⟩) 1 et)).setCell ⟨rb, 5, none⟩ (.slice (some ⟨w3.heap.size, 0, none⟩) 1 C)) C hC
    rw [hs] at hV
    have hB : w.heap.size ≤ w3.heap.size := by have h := (unhide HF3).size; simpa using h
    refine ⟨rfl, (((unhide HF3).setCell (.inl (by simp)) _).alloc _).drew.drew, gx, ex, gp, ep, gt, et, .slice (some ⟨w3.heap.size, 0, none⟩) 1 C, (((unhide Hr5).set 5 (.slice (some ⟨w3.heap.size, 0, none⟩) 1 C)).alloc _).congr (by
      intro i hi
      match i, hi with
      | 0, _ => rfl
      | 1, _ => rfl
      | 2, _ => rfl
      | 3, _ => rfl
      | 4, _ => rfl
      | 5, _ => rfl
      | i + 6, h => exact absurd h (by simp)), ((unhide HX3).set nx _).alloc _, ((unhide HP3).set np _).alloc _, ((unhide HT3).set nt _).alloc _, .inr ⟨rfl, _, _, hB, rfl, hV⟩⟩
  · have nb : b ∉ [rb] := by
      obtain ⟨f0, h0, _⟩ := vU
      simpa using row_ne h0 (unhide Hr) (by decide)
    have vU3 := vU.fr (unhide HF3) nb
    have HU3 := hide vU3
    clear vU vU3
    have hown := World.ownsRow_nil (w3.setCell ⟨rb, 4, none⟩ (.slice (some ⟨gt, 0, none⟩) 1 et)) w3.heap.size 26 1
    go_wp2_with (at_builtin; refine wpList_append_own _ rfl _ _ 27 rfl w3.heap.size 26 i0 (.float .f64 0) 1 8 Ybaf.underlying27 hi hz0 hz1 hz2 rfl (by decide) _ 0 [] rfl hown ⟨b, 0, none⟩ 1 c [.float .f64 (f 0)] rfl (by simp) ?c1 ?c2 ?c3 ?c4 ?c5 ?_)
    case c1 =>
      intro j u hu
      match j, hu with
      | 0, hu =>
        simp at hu
        subst hu
        exact (unhide HU3).cell (i := 0) (by omega)
      | j + 1, hu => simp at hu
    case c2 =>
      intro v hv
      simp only [List.mem_singleton] at hv
      subst hv
      rfl
    case c3 => unfold maxLen; omega
    case c4 => omega
    case c5 => simp
    intro v' w4 hown' hgrow hnil
    obtain ⟨gu, eu, Fu, rfl, hrow, hnc, hf, hgu⟩ := row_of_own (n := 1) (g0 := fun _ => .float .f64 (f 0)) hown' hnil
    have hfr : Fr [] (w3.setCell ⟨rb, 4, none⟩ (.slice (some ⟨gt, 0, none⟩) 1 et)) w4 := (Fr.refl [] _).grown hgrow (by intro k hk; simp [Value.ownBlock] at hk)
    have r6 := hfr.row (unhide Hr5) (by simp)
    have nu : gu ≠ rb := by omega
    have g5 : w4.cell? ⟨rb, 5, none⟩ = some (.slice none 0 0) := r6.cell (i := 5) (by omega)
    have g5' := r6.frozen 5
    have hB : w.heap.size ≤ w3.heap.size := by have h := (unhide HF3).size; simpa using h
    have HR := hide (And.intro r6 (And.intro (((unhide HF3).trans (hfr.mono (T := [rb]) (by simp))).setCell (p := ⟨rb, 5, none⟩) (.inl (by simp)) (.slice (some ⟨gu, 0, none⟩) 1 eu)) (And.intro ((unhide HX3).fr hfr (by simp)) (And.intro ((unhide HP3).fr hfr (by simp)) (And.intro ((unhide HT3).fr hfr (by simp)) (show Vec w4 gu 1 eu (fun _ => f 0) from ⟨Fu, hrow, hnc, hf⟩))))))
    clear hown hown' hgrow hnil hrow hnc hf hfr r6 e4 e4' e5 e1 e5'
    go_wp2
    go_end0
    obtain ⟨R1, R2, R3, R4, R5, R6⟩ := unhide HR
    refine ⟨rfl, R2, gx, ex, gp, ep, gt, et, .slice (some ⟨gu, 0, none⟩) 1 eu, (R1.set 5 (.slice (some ⟨gu, 0, none⟩) 1 eu)).congr (by
      intro i hi
      match i, hi with
      | 0, _ => rfl
      | 1, _ => rfl
      | 2, _ => rfl
      | 3, _ => rfl
      | 4, _ => rfl
      | 5, _ => rfl
      | i + 6, h => exact absurd h (by simp)), R3.set nx _, R4.set np _, R5.set nt _, .inr ⟨rfl, _, _, by omega, rfl, R6.set nu _⟩⟩
end Go.Proofs.YbulkaotqFmt.Wk
