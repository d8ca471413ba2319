/-
  A region that draws its order, by an invariant: whichever operation comes up, the invariant is kept; at the end it gives what is wanted.
-/
import Derived.WalkKit
namespace Go.Proofs.YbulkaotqFmt.Wk
open Go.RowKit

/-- The operations that have not come up. -/
def unl (listed : Array Bool) : Nat := (listed.toList.filter (fun b => !b)).length

theorem unl_set {listed : Array Bool} {i : Nat} (h : listed.getD i true = false) : unl (listed.setIfInBounds i true) + 1 = unl listed := by
  have hi : i < listed.size := by
    rcases Nat.lt_or_ge i listed.size with h' | h'
    · exact h'
    · simp [Array.getElem?_eq_none h'] at h
  obtain ⟨l⟩ := listed
  simp only [unl, List.setIfInBounds_toArray] at *
  simp at hi h
  induction l generalizing i with
  | nil => simp at hi
  | cons b l ih =>
    cases i with
    | zero =>
      simp at h
      subst h
      simp
    | succ i =>
      simp at hi h
      have := ih hi h
      cases b <;> simp at * <;> omega

theorem ready_unl {md : Region.Mode} {ops : Array Oper} {listed : Array Bool} {i : Nat} (h : i ∈ Region.ready md ops listed) : listed.getD i true = false := (mem_ready.1 h).1

theorem wpAny_inv {P : Program} {md : Region.Mode} {ops : Array Oper} {Q : Exit → Act → World → Prop} (Inv : Array Bool → Act → World → Prop)
    (hend : ∀ listed a w, Inv listed a w → Region.ready md ops listed = [] → Q .normal a w)
    (hstep : ∀ listed a w i, Inv listed a w → i ∈ Region.ready md ops listed → wpOp P ops Q i (fun a' w' => Inv (listed.setIfInBounds i true) a' w') a w) :
    ∀ (fuel : Nat) (listed : Array Bool) (a : Act) (w : World), unl listed ≤ fuel → Inv listed a w → wpAny P md ops Q fuel listed a w := by
  intro fuel
  induction fuel with
  | zero =>
    intro listed a w hu hi
    have : Region.ready md ops listed = [] := by
      cases hr : Region.ready md ops listed with
      | nil => rfl
      | cons x xs =>
        have hx : x ∈ Region.ready md ops listed := by rw [hr]; simp
        have := unl_set (ready_unl hx)
        omega
    exact ⟨this, hend listed a w hi this⟩
  | succ fuel ih =>
    intro listed a w hu hi
    refine ⟨hend listed a w hi, fun i hr => wpOp_mono (fun a' w' h => ih _ a' w' ?_ h) (hstep listed a w i hi hr)⟩
    have := unl_set (ready_unl hr)
    omega

theorem wpOp_val {P : Program} {ops : Array Oper} {Q : Exit → Act → World → Prop} {K : Act → World → Prop} {a : Act} {w w' : World} {i : Nat} {o : Oper} {v : Value} (h : ops[i]? = some o) (hg : o.guard = none)
    (hr : (execOp a.eval o).run P w = .ok (.value v) w') (hK : K (a.put o.dst v) w') : wpOp P ops Q i K a w := by
  unfold wpOp
  rw [h]
  simp only [Region.wanted, hg]
  left
  unfold Oper.wp
  rw [hr]
  exact hK

theorem wpOp_enter {P : Program} {ops : Array Oper} {Q : Exit → Act → World → Prop} {K : Act → World → Prop} {a : Act} {w : World} {i : Nat} {o : Oper} {f : FuncId} {args : Array Value} (h : ops[i]? = some o) (hg : o.guard = none)
    (hr : (execOp a.eval o).run P w = .ok (.enter f args) w) (hc : Calls P f args w fun e w' => ∃ v, e = .returned v ∧ K (a.put o.dst v) w') : wpOp P ops Q i K a w := by
  unfold wpOp
  rw [h]
  simp only [Region.wanted, hg]
  left
  unfold Oper.wp
  rw [hr]
  refine hc.mono ?_
  rintro e w' ⟨v, rfl, hk⟩
  exact hk

/-- Where every operation waits for earlier ones alone: if none may come up, all have. -/
theorem all_listed {ops : Array Oper} {listed : Array Bool} (hsz : listed.size = ops.size) (hb : ∀ (i : Nat) (o : Oper), ops[i]? = some o → ∀ e ∈ o.after, e.on < i) (hr : Region.ready .any ops listed = []) : ∀ i, i < ops.size → listed.getD i true = true := by
  intro i
  induction i using Nat.strongRecOn with
  | ind i ih =>
    intro hi
    cases hl : listed.getD i true with
    | true => rfl
    | false =>
      exfalso
      have : i ∈ Region.ready .any ops listed := by
        refine mem_ready.2 ⟨hl, ops[i], by simp [hi], fun e he _ => ?_⟩
        have h1 := hb i ops[i] (by simp [hi]) e he
        have h2 := ih e.on h1 (by omega)
        have h3 : e.on < listed.size := by omega
        simp [h3] at h2 ⊢
        exact h2
      rw [hr] at this
      cases this
end Go.Proofs.YbulkaotqFmt.Wk
