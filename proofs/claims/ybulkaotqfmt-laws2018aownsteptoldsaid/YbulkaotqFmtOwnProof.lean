/-
  'Rows.LawS2018AOwnStepToldSaid': the row and its told and tied card; the walks: YbulkaotqFmtLaw3nn, nu, bn, bu.
-/
import Derived.Test.YbulkaotqFmtArr
import Derived.Test.YbulkaotqFmtLaw3nn
import Derived.Test.YbulkaotqFmtLaw3nu
import Derived.Test.YbulkaotqFmtLaw3bn
import Derived.Test.YbulkaotqFmtLaw3bu
namespace Go.Proofs.YbulkaotqFmt.Own
open Go.ChangeShapes Go.WideShapes Go.ChangeAt Go.RowKit Go.Proofs.YbulkaotqFmt.Frame Wk Fl

theorem bd8 {n : Int} (h : (Lit.int .i8 n).wf = true) : Bd n 128 := by
  have := bounds_i8 h
  unfold Bd
  omega
theorem bdu {n : Int} (h : (Lit.int .u8 n).wf = true) : Bd n 255 := by
  have := bounds_u8 h
  unfold Bd
  omega
theorem r8 {n : Int} (h : (Lit.int .i8 n).wf = true) : Rep (floatOfInt .f64 n) n ∧ Bd n 128 := ⟨rep_int n (by have := bd8 h; unfold Bd at *; omega), bd8 h⟩
theorem ru {n : Int} (h : (Lit.int .u8 n).wf = true) : Rep (floatOfInt .f64 n) n ∧ Bd n 255 := ⟨rep_int n (bdu h), bdu h⟩
theorem gu {n : Int} (h : (Lit.int .u8 n).wf = true) : Wk.Good (floatOfInt .f64 n) := good_u8 n (bounds_u8 h).1 (bounds_u8 h).2

theorem law3 (F : Stop.Interp) (w : World) (hA : F.answers w.tape) (i0 i1 i2 i3 j0 j1 k0 k1 l0 l1 m0 m1 iu : Int) (hasB hasU : Bool)
    (a0 : (Lit.int .i8 i0).wf = true) (a1 : (Lit.int .i8 i1).wf = true) (a2 : (Lit.int .i8 i2).wf = true) (a3 : (Lit.int .i8 i3).wf = true) (b0 : (Lit.int .i8 j0).wf = true) (b1 : (Lit.int .i8 j1).wf = true) (c0 : (Lit.int .i8 k0).wf = true) (c1 : (Lit.int .i8 k1).wf = true) (d0 : (Lit.int .u8 l0).wf = true) (d1 : (Lit.int .u8 l1).wf = true) (e0 : (Lit.int .u8 m0).wf = true) (e1 : (Lit.int .u8 m1).wf = true) (u0 : (Lit.int .i8 iu).wf = true) :
    Calls Ybaf.prog 3 #[.agg #[.int .i8 i0, .int .i8 i1, .int .i8 i2, .int .i8 i3], .agg #[.int .i8 j0, .int .i8 j1], .bool hasB, .agg #[.int .i8 k0, .int .i8 k1], .agg #[.int .u8 l0, .int .u8 l1], .agg #[.int .u8 m0, .int .u8 m1], .int .i8 iu, .bool hasU] w fun e w' => e = .returned (.bool true) ∧ Fr [] w w' := by
  cases hasB with
  | false =>
    cases hasU with
    | false => exact law3_nn w i0 i1 i2 i3 j0 j1 k0 k1 l0 l1 m0 m1 iu _ _ _ _ _ _ _ _ _ _ _ _ _ (cvi i0) (cvi i1) (cvi i2) (cvi i3) (cvi k0) (cvi k1) (cvu l0) (cvu l1) (cvu m0) (cvu m1) (r8 a0) (r8 a1) (r8 a2) (r8 a3) (r8 b0) (r8 b1) (r8 c0) (r8 c1) (ru d0) (ru d1) (ru e0) (ru e1) (r8 u0) (gu e0) (gu e1) (gu d0) (gu d1)
    | true => exact law3_nu w i0 i1 i2 i3 j0 j1 k0 k1 l0 l1 m0 m1 iu _ _ _ _ _ _ _ _ _ _ _ _ _ (cvi i0) (cvi i1) (cvi i2) (cvi i3) (cvi k0) (cvi k1) (cvu l0) (cvu l1) (cvu m0) (cvu m1) (cvi iu) (r8 a0) (r8 a1) (r8 a2) (r8 a3) (r8 b0) (r8 b1) (r8 c0) (r8 c1) (ru d0) (ru d1) (ru e0) (ru e1) (r8 u0) (gu e0) (gu e1) (gu d0) (gu d1) F hA
  | true =>
    cases hasU with
    | false => exact law3_bn w i0 i1 i2 i3 j0 j1 k0 k1 l0 l1 m0 m1 iu _ _ _ _ _ _ _ _ _ _ _ _ _ (cvi i0) (cvi i1) (cvi i2) (cvi i3) (cvi j0) (cvi j1) (cvi k0) (cvi k1) (cvu l0) (cvu l1) (cvu m0) (cvu m1) (r8 a0) (r8 a1) (r8 a2) (r8 a3) (r8 b0) (r8 b1) (r8 c0) (r8 c1) (ru d0) (ru d1) (ru e0) (ru e1) (r8 u0) (gu e0) (gu e1) (gu d0) (gu d1)
    | true => exact law3_bu w i0 i1 i2 i3 j0 j1 k0 k1 l0 l1 m0 m1 iu _ _ _ _ _ _ _ _ _ _ _ _ _ (cvi i0) (cvi i1) (cvi i2) (cvi i3) (cvi j0) (cvi j1) (cvi k0) (cvi k1) (cvu l0) (cvu l1) (cvu m0) (cvu m1) (cvi iu) (r8 a0) (r8 a1) (r8 a2) (r8 a3) (r8 b0) (r8 b1) (r8 c0) (r8 c1) (ru d0) (ru d1) (ru e0) (ru e1) (r8 u0) (gu e0) (gu e1) (gu d0) (gu d1)

def spec : OpenSpec := OpenSpec.ofChange Rows.lawS2018AOwnStepSpec

theorem door_met3 (os : Os) (args : Array Value) : laidMetH Ybaf.prog Rows.lawS2018AOwnStepRow.laid ((World.doorLaid Ybaf.prog 28 os).forCall (fun _ _ => 0) ⟨#[], args, []⟩).memory :=
  laidMetH_of_parts3 (fuel := 8) (laidMet_of_run' 8 (by kernel_rfl) (by kernel_rfl)) (by kernel_rfl) (by kernel_rfl)

set_option maxRecDepth 100000 in
set_option maxHeartbeats 1600000 in
theorem lifted (os : Os) (started : os.Started) (H : Type) (enc : TypeId × Value → H) :
    ReturnsInTold Option.none {} Ybaf.checked os 3 .any Input.okWide (spec.preRow enc Ybaf.prog Ybaf.f3 [] false Rows.lawS2018AOwnStepRow.laid) (fun F => (spec.at F).post enc Ybaf.prog Ybaf.f3 false true false false) (aloneAtReturn Ybaf.prog) nothingAlways := by
  refine returnsInTold_of_row (C := Ybaf.checked) (s := spec) (by kernel_rfl) own started (by kernel_rfl) Ybaf.func3
    (OpenSpec.witness_stopped_atRef (enc := enc) (C := Ybaf.checked) false (World.doorLaid Ybaf.prog 28 os) #[.agg #[.int .i8 1, .int .i8 0, .int .i8 0, .int .i8 1], .agg #[.int .i8 1, .int .i8 1], .bool true, .agg #[.int .i8 1, .int .i8 1], .agg #[.int .u8 1, .int .u8 1], .agg #[.int .u8 1, .int .u8 1], .int .i8 1, .bool true] rfl (by kernel_rfl) (by kernel_rfl) (by kernel_rfl)
      (OpenSpec.preRow_of_B rfl 8 (by kernel_rfl) (by kernel_rfl) (door_met3 os _))) ?_
  intro F W base args ds gs before _ hF hval0 hW _ _ _ hL _
  have hval : ∀ (j : Nat) t v, Ybaf.f3.params[j]? = some t → args[j]? = some v → Value.okWide Ybaf.prog W .any base t v := hval0
  have hW' := hW
  obtain ⟨p, q, hA0, hV0, rfl, hfz, hnd⟩ := hW
  have hA : DataW.TrodAll enc Ybaf.prog W 0 (fun _ => true) true Ybaf.f3.params.toList args.toList ds p := hA0
  have hV : DataW.TrodVars enc Ybaf.prog W (fun _ => true) [Rows.lawS2018AOwnStepRow.named.headD ""] gs q := hV0
  rw [Ybaf.params3] at hA hval
  have hA2 := hA
  obtain ⟨v0, r0, d0, s0, o0, t0, e0, rfl, rfl, h0, hA⟩ := trodAll_cons hA
  obtain ⟨v1, r1, d1, s1, o1, t1, rfl, rfl, rfl, h1, hA⟩ := trodAll_cons hA
  obtain ⟨v2, r2, d2, s2, o2, t2, rfl, rfl, rfl, h2, hA⟩ := trodAll_cons hA
  obtain ⟨v3, r3, d3, s3, o3, t3, rfl, rfl, rfl, h3, hA⟩ := trodAll_cons hA
  obtain ⟨v4, r4, d4, s4, o4, t4, rfl, rfl, rfl, h4, hA⟩ := trodAll_cons hA
  obtain ⟨v5, r5, d5, s5, o5, t5, rfl, rfl, rfl, h5, hA⟩ := trodAll_cons hA
  obtain ⟨v6, r6, d6, s6, o6, t6, rfl, rfl, rfl, h6, hA⟩ := trodAll_cons hA
  obtain ⟨v7, r7, d7, s7, o7, t7, rfl, rfl, rfl, h7, hA⟩ := trodAll_cons hA
  obtain ⟨rfl, rfl, rfl⟩ := trodAll_nil hA
  obtain ⟨args⟩ := args
  simp only at e0
  subst e0
  obtain ⟨g1, rfl⟩ := one_var hV
  obtain ⟨i0, i1, i2, i3, rfl, a0, a1, a2, a3⟩ := open_arr4 Ybaf.underlying23 Ybaf.underlying22 cells22 cells23 (hval 0 23 v0 rfl rfl) h0
  obtain ⟨j0, j1, rfl, b0, b1⟩ := open_arr2 Ybaf.underlying24 Ybaf.underlying22 cells22 cells24 (hval 1 24 v1 rfl rfl) h1
  obtain ⟨hasB, rfl, rfl, rfl⟩ := open_bool Ybaf.underlying4 (hval 2 4 v2 rfl rfl) h2
  obtain ⟨k0, k1, rfl, c0, c1⟩ := open_arr2 Ybaf.underlying24 Ybaf.underlying22 cells22 cells24 (hval 3 24 v3 rfl rfl) h3
  obtain ⟨l0, l1, rfl, m0, m1⟩ := open_arr2 Ybaf.underlying25 Ybaf.underlying5 cells5 cells25 (hval 4 25 v4 rfl rfl) h4
  obtain ⟨n0, n1, rfl, w0, w1⟩ := open_arr2 Ybaf.underlying25 Ybaf.underlying5 cells5 cells25 (hval 5 25 v5 rfl rfl) h5
  obtain ⟨iu, rfl, rfl, rfl, u0⟩ := open_int Ybaf.underlying22 (hval 6 22 v6 rfl rfl) h6
  obtain ⟨hasU, rfl, rfl, rfl⟩ := open_bool Ybaf.underlying4 (hval 7 4 v7 rfl rfl) h7
  refine (law3 F.told W hF i0 i1 i2 i3 j0 j1 k0 k1 l0 l1 n0 n1 iu hasB hasU a0 a1 a2 a3 b0 b1 c0 c1 m0 m1 w0 w1 u0).mono fun e W' ⟨he, hfr⟩ => ?_
  subst he
  have bel : Below W.heap.size W W' := hfr.below (Nat.le_refl _) (by simp)
  refine ⟨_, rfl, _, _, _, [], _, q, hW', trodAll_mk1 (shut_bool Ybaf.underlying4 _), below_all laidOut bel [23, 24, 4, 24, 25, 25, 22, 4] ?_ hA2, Below.trodVars laidOut bel (by kernel_rfl) hV, bel.frame _, fun h => by cases h⟩
  intro t ht
  simp only [List.mem_cons, List.not_mem_nil, or_false] at ht
  rcases ht with rfl | rfl | rfl | rfl | rfl | rfl | rfl | rfl <;> exact ⟨by kernel_rfl, of_decide_eq_true (by kernel_rfl)⟩

/-- ████ THE STATEMENT: the told and tied card ████ -/
theorem proved : Rows.LawS2018AOwnStepToldSaid :=
  Claim7.holds_of_told_tied_any_at .later 3 Ybaf.f3 "fmt.errorf" ["fmt.Sprintf"] [] (true, "605a5d60b0206032b56c96f71c7714d9993cf0db982d53bdb263ac293334cedb") false false [.sentinel] true
    (by kernel_rfl) rfl rfl rfl laidOut (by kernel_rfl) rfl ⟨rfl, rfl, rfl, rfl, rfl, rfl, rfl⟩ rfl rfl (by kernel_rfl) (by kernel_rfl) Ybaf.func3 (by kernel_rfl)
    (of_decide_eq_true (by kernel_rfl)) (of_decide_eq_true (by kernel_rfl)) stops.symm rfl stopKnobs.symm (by kernel_rfl)
    (by kernel_rfl) (by kernel_rfl) (by kernel_rfl) (by kernel_rfl) (by kernel_rfl) (by kernel_rfl) (by kernel_rfl) (by kernel_rfl) (by kernel_rfl) rfl (by kernel_rfl) rfl rfl
    rfl rfl
    rfl (by kernel_rfl) (by kernel_rfl) (by kernel_rfl) (by decide) (by kernel_rfl) lawS2018AOwnStep_row_tie
    (OpenClaim.moreEntering_of (by kernel_rfl) (by kernel_rfl) (by kernel_rfl) (by kernel_rfl) (by kernel_rfl) (by kernel_rfl) (by kernel_rfl) (by kernel_rfl) (by kernel_rfl) (by kernel_rfl))
    ⟨_, WideRow.started_initial, quiet _⟩
    (fun os started _ H enc _ => lifted os started H enc)
#print axioms proved
end Go.Proofs.YbulkaotqFmt.Own
