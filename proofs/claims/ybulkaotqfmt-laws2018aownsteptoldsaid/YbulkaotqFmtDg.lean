/-
  WHAT THE CHECK OF A COVARIANCE RECKONS AT ONE VARIANCE ON THE DIAGONAL: closed facts for each word that can stand there (float64 of a uint8; the square of one; 1).
-/
import Derived.Test.YbulkaotqFmtLeaf
namespace Go.Proofs.YbulkaotqFmt.Wk
open Ieee

def tol : Nat := 4427486594234968593
def one : Nat := 4607182418800017408
def maxF : Nat := 9218868437227405311
def nnB (x : Nat) : Bool := match double.read x with | .number false _ _ => true | _ => false
def NN (x : Nat) : Prop := ∃ m e, double.read x = .number false m e
theorem nn_of {x : Nat} (h : nnB x = true) : NN x := by
  unfold nnB at h
  split at h
  · rename_i m e hd; exact ⟨m, e, hd⟩
  · cases h

theorem read_pos (r : Nat) (h : r ≤ double.infRung) : (∃ m e, double.read r = .number false m e) ∨ double.read r = .infinity false := by
  have hw : r < double.signWeight := by
    have h4 := Fl.f4
    have h5 := Fl.f5
    have hb : 0 < double.binade := Nat.two_pow_pos _
    omega
  have d1 : r / double.signWeight = 0 := Nat.div_eq_of_lt hw
  have d2 : r % double.signWeight = r := Nat.mod_eq_of_lt hw
  unfold Format.read
  simp only [d1, d2]
  by_cases h1 : r < double.binade
  · rw [if_pos h1]; exact .inl ⟨_, _, rfl⟩
  · rw [if_neg h1]
    by_cases h2 : r < double.infRung
    · rw [if_pos h2]; exact .inl ⟨_, _, rfl⟩
    · rw [if_neg h2, if_pos (by omega)]; exact .inr rfl

theorem prod_ff (m n : Nat) (i j : Int) : (Datum.number false m i).product (.number false n j) = some (.number false (m * n) (i + j)) := rfl
theorem order_nn (a k : Nat) (e : Int) : ((Datum.number false 0 (-(k : Int))).order (.number false a e) == some Ordering.gt) = false := by
  have hs : ∀ u, signed false 0 u = 0 := fun u => by unfold signed; simp
  have h2 : ∀ u, 0 ≤ signed false a u := fun u => by
    unfold signed
    rw [if_neg (by simp)]
    exact Int.natCast_nonneg _
  have h3 : (Datum.number false 0 (-(k : Int))).order (.number false a e) = some (compare (signed false 0 (-(k : Int) - min (-(k : Int)) e).toNat) (signed false a (e - min (-(k : Int)) e).toNat)) := rfl
  rw [h3, hs]
  have h4 := h2 (e - min (-(k : Int)) e).toNat
  generalize signed false a (e - min (-(k : Int)) e).toNat = v at h4
  rcases Int.lt_trichotomy 0 v with h | h | h
  · rw [Int.compare_eq_lt.2 h]; rfl
  · rw [← h]; rfl
  · omega
theorem word_ff (r : Nat) : double.word false r = r := by unfold Format.word; rw [if_neg (by simp)]
theorem nearest_le (m : Nat) (i : Int) : double.nearest false m i ≤ double.infRung := by
  unfold Format.nearest
  generalize hI : double.infRung = I
  split
  · rw [word_ff]; exact Nat.zero_le _
  · rw [word_ff]; exact Nat.min_le_right _ _
/-- A product of two that are not negative is none that 0 exceeds. -/
theorem mul_nn {x y : Nat} (hx : NN x) (hy : NN y) : ∃ l, double.mul x y = some l ∧ (double.order 0 l == some .gt) = false := by
  obtain ⟨m, i, hx⟩ := hx
  obtain ⟨n, j, hy⟩ := hy
  have h1 : double.mul x y = some (double.write (.number false (m * n) (i + j))) := by unfold Format.mul; rw [hx, hy, prod_ff]; rfl
  have h2 : double.write (.number false (m * n) (i + j)) = double.nearest false (m * n) (i + j) := rfl
  refine ⟨_, h1, ?_⟩
  rw [h2]
  have hr := nearest_le (m * n) (i + j)
  generalize double.nearest false (m * n) (i + j) = r at hr
  unfold Format.order
  rw [Fl.read0]
  rcases read_pos r hr with ⟨a, e, h⟩ | h
  · rw [h]; exact order_nn a 1074 e
  · rw [h]; rfl

/-- All that is reckoned at the variance d. -/
structure Dg (d s t sc u x y z : Nat) : Prop where
  abs : absW d = d
  sqrt : double.sqrt d = some s
  tmul : double.mul tol s = some t
  nt : NN t
  ns : NN s
  neg : (double.order d 0 == some .lt) = false
  scale : (double.order d 0 = some .eq ∧ sc = one) ∨ ((double.order d 0 == some .eq) = false ∧ sc = s)
  q1 : double.div d sc = some u
  q2 : double.div u sc = some x
  q0 : double.div 0 sc = some 0
  sum : double.add x tol = some y
  less : double.sub y 0 = some y
  pos : double.order y 0 = some .gt
  fin : (double.order (absW y) maxF == some .gt) = false
  root : double.sqrt y = some z
  z0 : double.div 0 z = some 0
def scOf (d s : Nat) : Nat := if double.order d 0 == some .eq then one else s
def dgC (d s t sc : Nat) : Bool :=
  match double.div d sc with
  | none => false
  | some u => match double.div u sc with
    | none => false
    | some x => match double.add x tol with
      | none => false
      | some y => match double.sqrt y with
        | none => false
        | some z => absW d == d && nnB t && nnB s && !(double.order d 0 == some .lt) && double.div 0 sc == some 0 && double.sub y 0 == some y && double.order y 0 == some .gt && !(double.order (absW y) maxF == some .gt) && double.div 0 z == some 0
def dgB (d : Nat) : Bool :=
  match double.sqrt d with
  | none => false
  | some s => match double.mul tol s with
    | none => false
    | some t => dgC d s t (scOf d s)
def Good (d : Nat) : Prop := ∃ s t sc u x y z, Dg d s t sc u x y z
theorem good_of {d : Nat} (h : dgB d = true) : Good d := by
  unfold dgB at h
  split at h
  · cases h
  rename_i s hs
  split at h
  · cases h
  rename_i t ht
  unfold dgC at h
  split at h
  · cases h
  rename_i u hu
  split at h
  · cases h
  rename_i x hx
  split at h
  · cases h
  rename_i y hy
  split at h
  · cases h
  rename_i z hz
  simp only [Bool.and_eq_true, beq_iff_eq, Bool.not_eq_true'] at h
  obtain ⟨⟨⟨⟨⟨⟨⟨⟨h1, h2⟩, h3⟩, h4⟩, h5⟩, h6⟩, h7⟩, h8⟩, h9⟩ := h
  refine ⟨s, t, scOf d s, u, x, y, z, ⟨h1, hs, ht, nn_of h2, nn_of h3, h4, ?_, hu, hx, h5, hy, h6, h7, h8, hz, h9⟩⟩
  unfold scOf
  by_cases he : double.order d 0 == some .eq
  · exact .inl ⟨by simpa using he, by rw [if_pos he]⟩
  · exact .inr ⟨by simpa using he, by rw [if_neg he]⟩

theorem all_u8 : (List.range 256).all (fun q => dgB (floatOfInt .f64 q)) = true := by kernel_rfl
theorem all_sq : (List.range 256).all (fun q => match double.mul (floatOfInt .f64 q) (floatOfInt .f64 q) with | some r => dgB r | none => false) = true := by kernel_rfl
theorem one_B : dgB one = true := by kernel_rfl
theorem good_one : Good one := good_of one_B
theorem good_u8 (q : Int) (h0 : 0 ≤ q) (h1 : q ≤ 255) : Good (floatOfInt .f64 q) := by
  obtain ⟨n, rfl⟩ := Int.eq_ofNat_of_zero_le h0
  exact good_of (List.all_eq_true.1 all_u8 n (List.mem_range.2 (by omega)))
theorem good_sq (q : Int) (h0 : 0 ≤ q) (h1 : q ≤ 255) (r : Nat) (hr : double.mul (floatOfInt .f64 q) (floatOfInt .f64 q) = some r) : Good r := by
  obtain ⟨n, rfl⟩ := Int.eq_ofNat_of_zero_le h0
  have h := List.all_eq_true.1 all_sq n (List.mem_range.2 (by omega))
  rw [hr] at h
  exact good_of h
end Go.Proofs.YbulkaotqFmt.Wk
