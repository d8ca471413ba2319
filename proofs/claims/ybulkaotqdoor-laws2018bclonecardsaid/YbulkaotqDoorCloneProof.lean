/-
  'Rows.LawS2018BCloneCardSaid': the row (after the guide's Mapy and Sent6 examples) and the tied card (after MapyCard); the walk: YbulkaotqDoorLawWalk.lean.
-/
import Derived.Test.YbulkaotqDoorRows
import Derived.Test.YbulkaotqDoorTie
import Derived.Test.YbulkaotqDoorCards
import Derived.Test.YbulkaotqDoorLawWalk
import Derived.ProofKit
import Derived.LaidMore
import Derived.OpenShut
import Derived.Stop.Joined
import Derived.Stop.LaidErr
import Derived.ChangeOld
import Derived.Deep.Slices
import Derived.SevenTiedAt
namespace Go.Proofs.YbulkaotqDoor.Clone
open Go.ChangeShapes Go.WideShapes Go.ChangeAt Go.RowKit Go.Deep

theorem own : ownKnob Ybad.prog.godebug = none := by kernel_rfl
theorem laidOut : laidOutB Ybad.prog = true := by kernel_rfl
/-- The named variable's name, and the name of an error's type, as the given row spells them. -/
def errName : String := Rows.lawS2018BCloneRow.named.headD ""
def esName : String := match (Rows.laid_example_com_truepath_truepath_errSimulatorNotBuilt : DataW Unit) with | .iface n _ => n | _ => ""
theorem gErr : Ybad.prog.globalNamed errName = some 1 := by kernel_rfl
theorem tErr : (Ybad.prog.globals[1]?).map (·.type) = some 47 := by kernel_rfl
theorem cells36 : Ybad.prog.cellsOf 36 = 1 := by kernel_rfl
theorem cells76 : Ybad.prog.cellsOf 76 = 1 := by kernel_rfl
theorem cells9 : Ybad.prog.cellsOf 9 = 1 := by kernel_rfl
theorem row49 (u : TypeId) (h : Ybad.prog.typeName? 3 u = some esName) : u = 49 :=
  typeName_ptr_named (nm := "errors.errorString") (by kernel_rfl) (by kernel_rfl) (by decide) u (h.trans (by kernel_rfl))

theorem trod_float {H : Type} {enc : TypeId × Value → H} {P : Program} {w : World} {base : Nat} {spare : Nat → Bool} {held : Bool} {fuel : Nat} {t : TypeId} {cs : List Value} {x : DataW H × List MemPlace} {k : FloatKind}
    (ht : P.underlying t = some (.float k)) (h : DataW.trod enc P w base spare held fuel t cs = some x) : ∃ b, cs = [.float k b] := by
  cases fuel with
  | zero => simp [DataW.trod] at h
  | succ n =>
    unfold DataW.trod at h
    simp only [ht] at h
    split at h <;> simp_all

theorem lt_of_cell {w : World} {a : Addr} {v : Value} (h : w.cell? a = some v) : a.block < w.heap.size := by
  unfold World.cell? at h
  cases hb : w.heap[a.block]? with
  | none => rw [hb] at h; cases h
  | some o => exact (Array.getElem?_eq_some_iff.1 hb).1

/-- The reading of a slice of floats gives 'IsFl'. -/
theorem open_floats {H : Type} {enc : TypeId × Value → H} {w : World} {spare : Nat → Bool} {held : Bool} {a : Option Addr} {len cap fuel : Nat} {x : DataW H × List MemPlace}
    (hf : DataW.trod enc Ybad.prog w 0 spare held fuel 22 [.slice a len cap] = some x) : IsFl w a len cap := by
  rcases open_slice1 Ybad.underlying22 cells36 hf with ⟨hcs, _⟩ | ⟨ad, len', cap', m, n, V, D, Pl, hcs, _, hl, _, hm, _, hx⟩
  · simp at hcs
    exact .inl hcs
  · simp at hcs
    obtain ⟨rfl, rfl, rfl⟩ := hcs
    have hlm : len ≤ m := by rw [hm]; split <;> omega
    obtain ⟨z, hz⟩ := choose_lt (α := Nat) (n := len) (p := fun i b => w.cell? (ad.add i) = some (.float .f64 b)) (fun i hi => by
      obtain ⟨h1, h2⟩ := hx i (by omega)
      obtain ⟨b, hb⟩ := trod_float Ybad.underlying36 h2
      simp at hb
      exact ⟨b, by rw [h1, hb]⟩)
    refine .inr ⟨ad, z, rfl, ?_, fun i hi => hz i hi⟩
    intro h0
    have := lt_of_cell (hz 0 h0)
    rwa [add_block] at this

theorem door_met (os : Os) (args : Array Value) : laidMetH Ybad.prog Rows.lawS2018BCloneRow.laid ((World.doorLaid Ybad.prog 28 os).forCall (fun _ _ => 0) ⟨#[], args, []⟩).memory :=
  laidMetH_of_parts3 (fuel := 8) (laidMet_of_run' 8 (by kernel_rfl) (by kernel_rfl)) (by kernel_rfl) (by kernel_rfl)

set_option maxRecDepth 100000 in
theorem lifted (os : Os) (started : os.Started) (H : Type) (enc : TypeId × Value → H) :
    ReturnsInHanded {} Ybad.checked os 3 .any (fun w args => (Rows.lawS2018BCloneSpec.pre enc Ybad.prog Ybad.f3 [] false w args ∧ laidMetH Ybad.prog Rows.lawS2018BCloneRow.laid w) ∧ sizedMet enc Ybad.prog Ybad.f3 (OpenSpec.ofChange Rows.lawS2018BCloneSpec) false w args)
      (Rows.lawS2018BCloneSpec.post enc Ybad.prog Ybad.f3 false true false false) := by
  refine returnsInHanded_of_change_and (C := Ybad.checked) (X := fun w _ => laidMetH Ybad.prog Rows.lawS2018BCloneRow.laid w) (fun _ _ _ hh h => h.of_heap hh) own started (by kernel_rfl) Ybad.func3
    (ChangeSpec.witness_shaped (enc := enc) (C := Ybad.checked) (os := os) (X := fun w _ => laidMetH Ybad.prog Rows.lawS2018BCloneRow.laid w) false (World.doorLaid Ybad.prog 28 os) #[.slice none 0 0, .slice none 0 0] 8 rfl (World.shaped_of_RefB (by kernel_rfl) (by kernel_rfl)) (by kernel_rfl) (by kernel_rfl) (by kernel_rfl) (door_met os _)) ?_
  intro W base args ds gs before hval0 hW _ _ hL _
  have hval : ∀ (j : Nat) t v, Ybad.f3.params[j]? = some t → args[j]? = some v → Value.okWide Ybad.prog W .any base t v := hval0
  have hW' := hW
  obtain ⟨p, q, hA0, hV0, rfl, hfz, hnd⟩ := hW
  have hA : DataW.TrodAll enc Ybad.prog W 0 (fun _ => true) true Ybad.f3.params.toList args.toList ds p := hA0
  have hV : DataW.TrodVars enc Ybad.prog W (fun _ => true) [errName] gs q := hV0
  rw [Ybad.params3] at hA hval
  obtain ⟨v0, v1, d0, d1, p0, p1, rfl, rfl, rfl, h0, h1⟩ := trodAll_two hA
  obtain ⟨a0, len0, cap0, rfl⟩ := okWide_slice Ybad.underlying22 (hval 0 22 v0 rfl rfl)
  obtain ⟨a1, len1, cap1, rfl⟩ := okWide_slice Ybad.underlying22 (hval 1 22 v1 rfl rfl)
  rw [MakeChecks.laidMetH_plain _ _ _ (by kernel_rfl)] at hL
  obtain ⟨ae, se, hve, _, _, _⟩ := laid_sentinel (nm := esName) (n := errName) hL gErr tErr Ybad.underlying47 row49 Ybad.underlying49 Ybad.underlying76 rfl rfl Ybad.underlying9 cells76 cells9
  obtain ⟨rfl, rfl⟩ := hV.unique (vars_read1 enc gErr tErr Ybad.underlying47 hve trivial _)
  have k0 := h0
  have k1 := h1
  have lt0 : ∀ x ∈ p0, x.block < W.heap.size := by obtain ⟨m, hm⟩ := k0; exact DataW.trod_lt m _ _ _ hm
  have lt1 : ∀ x ∈ p1, x.block < W.heap.size := by obtain ⟨m, hm⟩ := k1; exact DataW.trod_lt m _ _ _ hm
  have f0 : IsFl W a0 len0 cap0 := by obtain ⟨fuel, hf⟩ := h0; exact open_floats (by simpa [Value.cells] using hf)
  have f1 : IsFl W a1 len1 cap1 := by obtain ⟨fuel, hf⟩ := h1; exact open_floats (by simpa [Value.cells] using hf)
  clear hA0 hval0 hV0
  have hgl : (1 : Nat) < W.heap.size := lt_of_cell (a := ⟨1, 0, none⟩) (by simpa using World.var?_cell gErr hve 0)
  refine (law_walk W a0 len0 cap0 f0 a1 len1 cap1 f1).mono fun e W' ⟨he, bel⟩ => ?_
  subst he
  have hve' := var?_below bel gErr hgl hve
  refine ⟨_, rfl, _, _, _, [], p0 ++ p1, [.cell 1 0], hW', trodAll_mk1 (shut_bool Ybad.underlying4 _), ?_, vars_read1 enc gErr tErr Ybad.underlying47 hve' trivial _, bel.frame _, fun h => by cases h⟩
  exact trodAll_mk2 (Below.trod laidOut (by kernel_rfl) (of_decide_eq_true (by kernel_rfl)) k0 bel lt0) (Below.trod laidOut (by kernel_rfl) (of_decide_eq_true (by kernel_rfl)) k1 bel lt1)

theorem row_holds : Rows.LawS2018BCloneSaid :=
  OpenClaim.holds_of_wide 3 Ybad.f3 rfl rfl rfl rfl rfl rfl rfl ⟨rfl, rfl, rfl, rfl, rfl⟩ rfl rfl rfl rfl rfl (by kernel_rfl) Ybad.func3 (by kernel_rfl)
    (of_decide_eq_true (by kernel_rfl)) (by unfold Func.isWrapper; first | (rw [if_pos (by decide +kernel)]; kernel_rfl) | (rw [if_neg (by decide +kernel)]; exact ⟨rfl, rfl⟩))
    (fun os started H enc _ => lifted os started H enc)

/-- ████ THE STATEMENT: the tied card ████ -/
theorem proved : Rows.LawS2018BCloneCardSaid :=
  Claim7.holds_tied_plain_at .later [] [.sentinel] true (true, "49db7a612c0a8ab67bc667857f005f17a8f2aa1edf156250d4e8386b14d6a4b7") false
    row_holds (fun _ h => by cases h) (by kernel_rfl) (fun _ h => by cases h) lawS2018BClone_row_tie rfl ⟨rfl, rfl⟩ (by kernel_rfl) rfl
    (fun f fn hf hfn => by
      obtain rfl : f = 3 := Option.some.inj ((show Ybad.prog.funcNamed Rows.lawS2018BCloneRow.func = some 3 by kernel_rfl).symm.trans hf) |>.symm
      obtain rfl : fn = Ybad.f3 := (Option.some.inj (Ybad.func3.symm.trans hfn)).symm
      exact ⟨by kernel_rfl, fun j t ht => by
        rw [Ybad.params3] at ht
        have hm : t ∈ [22, 22] := by simpa using Array.mem_of_getElem? ht
        have hall : ([22, 22].all fun u => !Ybad.prog.wantsStandIn u) = true := by kernel_rfl
        exact (show Ybad.prog.wantsStandIn t = false by simpa using List.all_eq_true.1 hall t hm)⟩)
    (by kernel_rfl)
#print axioms proved
end Go.Proofs.YbulkaotqDoor.Clone
