/-
  Arrays of two, three and four small numbers that come in by value; the row's frame as far as both laws share it.
-/
import Derived.Test.YbulkaotqFmtRows
import Derived.Test.YbulkaotqFmtTie
import Derived.Test.YbulkaotqFmtCards
import Derived.ProofKit
import Derived.LaidMore
import Derived.OpenShut
import Derived.OpenVars
import Derived.Stop.Joined
import Derived.Stop.JoinedAt
import Derived.Stop.JoinedTold
import Derived.Deep.DeepWitnessRef
import Derived.SevenTiedAt
namespace Go.Proofs.YbulkaotqFmt.Frame
open Go.ChangeShapes Go.WideShapes Go.ChangeAt Go.RowKit

theorem own : ownKnob Ybaf.prog.godebug = none := by kernel_rfl
theorem laidOut : laidOutB Ybaf.prog = true := by kernel_rfl
theorem stops : Ybaf.pinned.checked.prog.stops = ["fmt.errorf", "fmt.Sprintf"] := by kernel_rfl
theorem stopKnobs : Ybaf.pinned.checked.prog.stopKnobs = [] := by kernel_rfl
theorem quiet (os : Os) : Stop.quiet Ybaf.pinned.checked.prog os := by
  intro k hk
  rw [stopKnobs] at hk
  cases hk
theorem cells22 : Ybaf.prog.cellsOf 22 = 1 := by kernel_rfl
theorem cells5 : Ybaf.prog.cellsOf 5 = 1 := by kernel_rfl
theorem cells53 : Ybaf.prog.cellsOf 53 = 3 := by kernel_rfl
theorem cells25 : Ybaf.prog.cellsOf 25 = 2 := by kernel_rfl
theorem cells24 : Ybaf.prog.cellsOf 24 = 2 := by kernel_rfl
theorem cells23 : Ybaf.prog.cellsOf 23 = 4 := by kernel_rfl

section
variable {P : Program} {H : Type} {enc : TypeId × Value → H} {W : World} {base0 base : Nat} {sp : Nat → Bool} {held : Bool} {t e : TypeId} {k : IntKind} {v : Value} {d : DataW H} {ps : List MemPlace}

theorem open_arr {n : Nat} (ht : P.underlying t = some (.array n e)) (he : P.underlying e = some (.int k)) (hc : P.cellsOf e = 1) (hct : P.cellsOf t = n)
    (hval : Value.okWide P W .any base0 t v) (hd : DataW.Trod enc P W base sp held t v d ps) : ∃ l : List Value, v = .agg l.toArray ∧ l.length = n ∧ ∀ i, i < n → ∃ z, l[i]? = some (.int k z) ∧ (Lit.int k z).wf = true := by
  obtain ⟨cs, rfl, hsz, _⟩ : ∃ cs, v = .agg cs ∧ cs.size = P.cellsOf t ∧ Row.okWide P W .any base0 t cs := by
    simpa [Value.okWide, ht] using hval
  obtain ⟨l⟩ := cs
  refine ⟨l, rfl, by simpa [hct] using hsz, fun i hi => ?_⟩
  obtain ⟨fuel, hf⟩ := hd
  obtain ⟨xs, m, _, _, _, hl, hel⟩ := DataW.trod_array ht hf
  have h := hel i hi
  obtain ⟨x, hx⟩ : ∃ x, xs[i]? = some x := ⟨xs[i], by simp [hl, hi]⟩
  rw [hx, hc, Nat.mul_one] at h
  obtain ⟨z, hz, _, hw⟩ := DataW.trod_int he h
  refine ⟨z, ?_, hw⟩
  have hz' : (List.drop i l).take 1 = [.int k z] := by simpa [Value.cells] using hz
  have : ((List.drop i l).take 1)[0]? = some (.int k z) := by rw [hz']; rfl
  simpa using this

theorem open_arr2 (ht : P.underlying t = some (.array 2 e)) (he : P.underlying e = some (.int k)) (hc : P.cellsOf e = 1) (hct : P.cellsOf t = 2)
    (hval : Value.okWide P W .any base0 t v) (hd : DataW.Trod enc P W base sp held t v d ps) : ∃ a b, v = .agg #[.int k a, .int k b] ∧ (Lit.int k a).wf = true ∧ (Lit.int k b).wf = true := by
  obtain ⟨l, rfl, hl, h⟩ := open_arr ht he hc hct hval hd
  obtain ⟨a, ha, wa⟩ := h 0 (by omega)
  obtain ⟨b, hb, wb⟩ := h 1 (by omega)
  match l, hl with
  | [x, y], _ =>
    simp at ha hb
    subst ha hb
    exact ⟨a, b, rfl, wa, wb⟩
theorem open_arr3 (ht : P.underlying t = some (.array 3 e)) (he : P.underlying e = some (.int k)) (hc : P.cellsOf e = 1) (hct : P.cellsOf t = 3)
    (hval : Value.okWide P W .any base0 t v) (hd : DataW.Trod enc P W base sp held t v d ps) : ∃ a b c, v = .agg #[.int k a, .int k b, .int k c] ∧ (Lit.int k a).wf = true ∧ (Lit.int k b).wf = true ∧ (Lit.int k c).wf = true := by
  obtain ⟨l, rfl, hl, h⟩ := open_arr ht he hc hct hval hd
  obtain ⟨a, ha, wa⟩ := h 0 (by omega)
  obtain ⟨b, hb, wb⟩ := h 1 (by omega)
  obtain ⟨c, hc', wc⟩ := h 2 (by omega)
  match l, hl with
  | [x, y, z], _ =>
    simp at ha hb hc'
    subst ha hb hc'
    exact ⟨a, b, c, rfl, wa, wb, wc⟩
theorem open_arr4 (ht : P.underlying t = some (.array 4 e)) (he : P.underlying e = some (.int k)) (hc : P.cellsOf e = 1) (hct : P.cellsOf t = 4)
    (hval : Value.okWide P W .any base0 t v) (hd : DataW.Trod enc P W base sp held t v d ps) : ∃ a b c f, v = .agg #[.int k a, .int k b, .int k c, .int k f] ∧ (Lit.int k a).wf = true ∧ (Lit.int k b).wf = true ∧ (Lit.int k c).wf = true ∧ (Lit.int k f).wf = true := by
  obtain ⟨l, rfl, hl, h⟩ := open_arr ht he hc hct hval hd
  obtain ⟨a, ha, wa⟩ := h 0 (by omega)
  obtain ⟨b, hb, wb⟩ := h 1 (by omega)
  obtain ⟨c, hc', wc⟩ := h 2 (by omega)
  obtain ⟨f, hf', wf⟩ := h 3 (by omega)
  match l, hl with
  | [x, y, z, u], _ =>
    simp at ha hb hc' hf'
    subst ha hb hc' hf'
    exact ⟨a, b, c, f, rfl, wa, wb, wc, wf⟩
end
/-- What was read is read so behind a call that turned nothing of it. -/
theorem below_all {P : Program} {H : Type} {enc : TypeId × Value → H} (hl : laidOutB P = true) {W W' : World} (hb : Below W.heap.size W W') : ∀ (ts : List TypeId) {vs : List Value} {ds : List (DataW H)} {ps : List MemPlace}, (∀ t ∈ ts, P.readableRec t = true ∧ t < P.types.size) → DataW.TrodAll enc P W 0 (fun _ => true) true ts vs ds ps → DataW.TrodAll enc P W' 0 (fun b => decide (b < W.heap.size)) true ts vs ds ps
  | [], vs, ds, ps, _, h => by
    obtain ⟨rfl, rfl, rfl⟩ := trodAll_nil h
    exact trodAll_mk0
  | t :: ts, vs, ds, ps, hr, h => by
    obtain ⟨v, vs', d, ds', p, q, rfl, rfl, rfl, h1, h2⟩ := trodAll_cons h
    have lt : ∀ x ∈ p, x.block < W.heap.size := by obtain ⟨m, hm⟩ := h1; exact DataW.trod_lt m _ _ _ hm
    exact trodAll_cons_mk (Below.trod hl (hr t (by simp)).1 (hr t (by simp)).2 h1 hb lt) (below_all hl hb ts (fun t' ht' => hr t' (by simp [ht'])) h2)
set_option maxRecDepth 100000
theorem bounds_u8 {n : Int} (h : (Lit.int .u8 n).wf = true) : 0 ≤ n ∧ n ≤ 255 := by
  simp [Lit.wf, IntKind.min, IntKind.max, IntKind.signed, IntKind.bits] at h
  omega
theorem one_var {P : Program} {H : Type} {enc : TypeId × Value → H} {W : World} {sp : Nat → Bool} {n : String} {gs : List (DataW H)} {q : List MemPlace} (h : DataW.TrodVars enc P W sp [n] gs q) : ∃ g, gs = [g] := by
  match gs, h with
  | [], h => exact h.elim
  | [g], _ => exact ⟨g, rfl⟩
  | g :: g' :: gs, h =>
    obtain ⟨_, _, _, _, _, _, _, _, _, _, hs, _⟩ := h
    exact hs.elim
theorem door_met (os : Os) (args : Array Value) : laidMetH Ybaf.prog Rows.lawS2018AMotionStepRow.laid ((World.doorLaid Ybaf.prog 28 os).forCall (fun _ _ => 0) ⟨#[], args, []⟩).memory :=
  laidMetH_of_parts3 (fuel := 8) (laidMet_of_run' 8 (by kernel_rfl) (by kernel_rfl)) (by kernel_rfl) (by kernel_rfl)
end Go.Proofs.YbulkaotqFmt.Frame
