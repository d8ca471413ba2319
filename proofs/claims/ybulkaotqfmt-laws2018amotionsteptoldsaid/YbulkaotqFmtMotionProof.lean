/-
  'Rows.LawS2018AMotionStepToldSaid': the row and its told and tied card; the walk: YbulkaotqFmtLaw4.lean.
-/
import Derived.Test.YbulkaotqFmtArr
import Derived.Test.YbulkaotqFmtLaw4
namespace Go.Proofs.YbulkaotqFmt.Motion
open Go.ChangeShapes Go.WideShapes Go.ChangeAt Go.RowKit Go.Proofs.YbulkaotqFmt.Frame Wk Fl

theorem bd8 {n : Int} (h : (Lit.int .i8 n).wf = true) : Bd n 128 := by
  have := bounds_i8 h
  unfold Bd
  omega
theorem bdu {n : Int} (h : (Lit.int .u8 n).wf = true) : Bd n 255 := by
  have := bounds_u8 h
  unfold Bd
  omega
theorem bd_le {n : Int} (h : Bd n 128) : Bd n 255 := by
  unfold Bd at *
  omega

theorem law4 (w : World) (i0 i1 i2 j0 j1 k0 k1 l0 l1 id : Int) (a0 : (Lit.int .i8 i0).wf = true) (a1 : (Lit.int .i8 i1).wf = true) (a2 : (Lit.int .i8 i2).wf = true) (b0 : (Lit.int .u8 j0).wf = true) (b1 : (Lit.int .u8 j1).wf = true) (c0 : (Lit.int .i8 k0).wf = true) (c1 : (Lit.int .i8 k1).wf = true) (d0 : (Lit.int .u8 l0).wf = true) (d1 : (Lit.int .u8 l1).wf = true) (e0 : (Lit.int .u8 id).wf = true) :
    Calls Ybaf.prog 4 #[.agg #[.int .i8 i0, .int .i8 i1, .int .i8 i2], .agg #[.int .u8 j0, .int .u8 j1], .agg #[.int .i8 k0, .int .i8 k1], .agg #[.int .u8 l0, .int .u8 l1], .int .u8 id] w fun e w' => e = .returned (.bool true) ∧ Fr [] w w' := by
  have ub0 := bounds_u8 b0
  have ub1 := bounds_u8 b1
  have ud0 := bounds_u8 d0
  have ud1 := bounds_u8 d1
  obtain ⟨q0, m0, r0⟩ := mul_rep (rep_int j0 (bdu b0)) (rep_int j0 (bdu b0)) (((bdu b0).mul (bdu b0)).small (by omega))
  obtain ⟨q1, m1, r1⟩ := mul_rep (rep_int j1 (bdu b1)) (rep_int j1 (bdu b1)) (((bdu b1).mul (bdu b1)).small (by omega))
  exact law4_words w i0 i1 i2 j0 j1 k0 k1 l0 l1 id _ _ _ _ _ _ _ _ _ _ q0 q1 (cvi i0) (cvi i1) (cvi i2) (cvu j0) (cvu j1) (cvi k0) (cvi k1) (cvu l0) (cvu l1) (cvu id)
    ⟨rep_int i0 (bd_le (bd8 a0)), bd8 a0⟩ ⟨rep_int i1 (bd_le (bd8 a1)), bd8 a1⟩ ⟨rep_int i2 (bd_le (bd8 a2)), bd8 a2⟩ ⟨rep_int j0 (bdu b0), bdu b0⟩ ⟨rep_int j1 (bdu b1), bdu b1⟩ ⟨rep_int k0 (bd_le (bd8 c0)), bd8 c0⟩ ⟨rep_int k1 (bd_le (bd8 c1)), bd8 c1⟩ ⟨rep_int l0 (bdu d0), bdu d0⟩ ⟨rep_int l1 (bdu d1), bdu d1⟩ ⟨rep_int id (bdu e0), bdu e0⟩ (bounds_u8 e0).1
    m0 m1 r0 r1 (good_sq j0 ub0.1 ub0.2 q0 m0) (good_sq j1 ub1.1 ub1.2 q1 m1) (good_u8 l0 ud0.1 ud0.2) (good_u8 l1 ud1.1 ud1.2)

def spec : OpenSpec := OpenSpec.ofChange Rows.lawS2018AMotionStepSpec

set_option maxRecDepth 100000 in
set_option maxHeartbeats 1600000 in
theorem lifted (os : Os) (started : os.Started) (H : Type) (enc : TypeId × Value → H) :
    ReturnsInTold Option.none {} Ybaf.checked os 4 .any Input.okWide (spec.preRow enc Ybaf.prog Ybaf.f4 [] false Rows.lawS2018AMotionStepRow.laid) (fun F => (spec.at F).post enc Ybaf.prog Ybaf.f4 false true false false) (aloneAtReturn Ybaf.prog) nothingAlways := by
  refine returnsInTold_of_row (C := Ybaf.checked) (s := spec) (by kernel_rfl) own started (by kernel_rfl) Ybaf.func4
    (OpenSpec.witness_stopped_atRef (enc := enc) (C := Ybaf.checked) false (World.doorLaid Ybaf.prog 28 os) #[.agg #[.int .i8 1, .int .i8 0, .int .i8 1], .agg #[.int .u8 1, .int .u8 1], .agg #[.int .i8 1, .int .i8 1], .agg #[.int .u8 1, .int .u8 1], .int .u8 1] rfl (by kernel_rfl) (by kernel_rfl) (by kernel_rfl)
      (OpenSpec.preRow_of_B rfl 8 (by kernel_rfl) (by kernel_rfl) (door_met os _))) ?_
  intro F W base args ds gs before _ hF hval0 hW _ _ _ hL _
  have hval : ∀ (j : Nat) t v, Ybaf.f4.params[j]? = some t → args[j]? = some v → Value.okWide Ybaf.prog W .any base t v := hval0
  have hW' := hW
  obtain ⟨p, q, hA0, hV0, rfl, hfz, hnd⟩ := hW
  have hA : DataW.TrodAll enc Ybaf.prog W 0 (fun _ => true) true Ybaf.f4.params.toList args.toList ds p := hA0
  have hV : DataW.TrodVars enc Ybaf.prog W (fun _ => true) [Rows.lawS2018AMotionStepRow.named.headD ""] gs q := hV0
  rw [Ybaf.params4] at hA hval
  have hA2 := hA
  obtain ⟨v0, r0, d0, s0, o0, t0, e0, rfl, rfl, h0, hA⟩ := trodAll_cons hA
  obtain ⟨v1, r1, d1, s1, o1, t1, rfl, rfl, rfl, h1, hA⟩ := trodAll_cons hA
  obtain ⟨v2, r2, d2, s2, o2, t2, rfl, rfl, rfl, h2, hA⟩ := trodAll_cons hA
  obtain ⟨v3, r3, d3, s3, o3, t3, rfl, rfl, rfl, h3, hA⟩ := trodAll_cons hA
  obtain ⟨v4, r4, d4, s4, o4, t4, rfl, rfl, rfl, h4, hA⟩ := trodAll_cons hA
  obtain ⟨rfl, rfl, rfl⟩ := trodAll_nil hA
  obtain ⟨args⟩ := args
  simp only at e0
  subst e0
  obtain ⟨g1, rfl⟩ := one_var hV
  obtain ⟨i0, i1, i2, rfl, a0, a1, a2⟩ := open_arr3 Ybaf.underlying53 Ybaf.underlying22 cells22 cells53 (hval 0 53 v0 rfl rfl) h0
  obtain ⟨j0, j1, rfl, b0, b1⟩ := open_arr2 Ybaf.underlying25 Ybaf.underlying5 cells5 cells25 (hval 1 25 v1 rfl rfl) h1
  obtain ⟨k0, k1, rfl, c0, c1⟩ := open_arr2 Ybaf.underlying24 Ybaf.underlying22 cells22 cells24 (hval 2 24 v2 rfl rfl) h2
  obtain ⟨l0, l1, rfl, m0, m1⟩ := open_arr2 Ybaf.underlying25 Ybaf.underlying5 cells5 cells25 (hval 3 25 v3 rfl rfl) h3
  obtain ⟨id, rfl, rfl, rfl, n0⟩ := open_int Ybaf.underlying5 (hval 4 5 v4 rfl rfl) h4
  refine (law4 W i0 i1 i2 j0 j1 k0 k1 l0 l1 id a0 a1 a2 b0 b1 c0 c1 m0 m1 n0).mono fun e W' ⟨he, hfr⟩ => ?_
  subst he
  have bel : Below W.heap.size W W' := hfr.below (Nat.le_refl _) (by simp)
  refine ⟨_, rfl, _, _, _, [], _, q, hW', trodAll_mk1 (shut_bool Ybaf.underlying4 _), below_all laidOut bel [53, 25, 24, 25, 5] ?_ hA2, Below.trodVars laidOut bel (by kernel_rfl) hV, bel.frame _, fun h => by cases h⟩
  intro t ht
  simp only [List.mem_cons, List.not_mem_nil, or_false] at ht
  rcases ht with rfl | rfl | rfl | rfl | rfl <;> exact ⟨by kernel_rfl, of_decide_eq_true (by kernel_rfl)⟩

/-- ████ THE STATEMENT: the told and tied card ████ -/
theorem proved : Rows.LawS2018AMotionStepToldSaid :=
  Claim7.holds_of_told_tied_any_at .later 4 Ybaf.f4 "fmt.errorf" ["fmt.Sprintf"] [] (true, "605a5d60b0206032b56c96f71c7714d9993cf0db982d53bdb263ac293334cedb") false false [.sentinel] true
    (by kernel_rfl) rfl rfl rfl laidOut (by kernel_rfl) rfl ⟨rfl, rfl, rfl, rfl, rfl, rfl, rfl⟩ rfl rfl (by kernel_rfl) (by kernel_rfl) Ybaf.func4 (by kernel_rfl)
    (of_decide_eq_true (by kernel_rfl)) (of_decide_eq_true (by kernel_rfl)) stops.symm rfl stopKnobs.symm (by kernel_rfl)
    (by kernel_rfl) (by kernel_rfl) (by kernel_rfl) (by kernel_rfl) (by kernel_rfl) (by kernel_rfl) (by kernel_rfl) (by kernel_rfl) (by kernel_rfl) rfl (by kernel_rfl) rfl rfl
    rfl rfl
    rfl (by kernel_rfl) (by kernel_rfl) (by kernel_rfl) (by decide) (by kernel_rfl) lawS2018AMotionStep_row_tie
    (OpenClaim.moreEntering_of (by kernel_rfl) (by kernel_rfl) (by kernel_rfl) (by kernel_rfl) (by kernel_rfl) (by kernel_rfl) (by kernel_rfl) (by kernel_rfl) (by kernel_rfl) (by kernel_rfl))
    ⟨_, WideRow.started_initial, quiet _⟩
    (fun os started _ H enc _ => lifted os started H enc)
#print axioms proved
end Go.Proofs.YbulkaotqFmt.Motion
