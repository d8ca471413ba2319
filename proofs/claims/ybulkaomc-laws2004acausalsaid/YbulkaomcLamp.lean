/-
  THE PLAIN LAW OF LAMPORT's REPLAY: no Go in sight. 'H i': the host of event i; 'S i': the place of its send, or -1.
-/
namespace Go.Proofs.Ybulkaomc.Lamp

/-- The value at the latest event before i whose host is h; 0 if there is none. -/
def back (H f : Nat → Int) : Nat → Int → Int
  | 0, _ => 0
  | j + 1, h => if H j = h then f j else back H f j h

def pick (v x s : Int) : Int := if 0 ≤ s ∧ v < x then x else v
def nxt (H S f : Nat → Int) (i : Nat) : Int := pick (back H f i (H i)) (f (S i).toNat) (S i) + 1
def tab (H S : Nat → Int) : Nat → Nat → Int
  | 0 => fun _ => 0
  | i + 1 => fun j => if j = i then nxt H S (tab H S i) i else tab H S i j
def lam (H S : Nat → Int) (i : Nat) : Int := tab H S (i + 1) i

theorem back_congr (H f g : Nat → Int) (i : Nat) (h : Int) (e : ∀ j, j < i → f j = g j) : back H f i h = back H g i h := by
  induction i with
  | zero => rfl
  | succ i ih =>
    unfold back
    rw [e i (by omega), ih (fun j hj => e j (by omega))]

theorem tab_lam (H S : Nat → Int) (k j : Nat) (h : j < k) : tab H S k j = lam H S j := by
  induction k with
  | zero => omega
  | succ k ih =>
    by_cases e : j = k
    · subst e; rfl
    · show (if j = k then _ else tab H S k j) = _
      rw [if_neg e]; exact ih (by omega)

theorem lam_eq (H S : Nat → Int) (i : Nat) (hs : S i < (i : Int)) : lam H S i = pick (back H (lam H S) i (H i)) (lam H S (S i).toNat) (S i) + 1 := by
  show (if i = i then nxt H S (tab H S i) i else tab H S i i) = _
  rw [if_pos rfl]
  unfold nxt
  rw [back_congr H (tab H S i) (lam H S) i (H i) (fun j hj => tab_lam H S i j hj)]
  by_cases h0 : 0 ≤ S i
  · rw [tab_lam H S i (S i).toNat (by omega)]
  · unfold pick
    rw [if_neg (by omega), if_neg (by omega)]

theorem bounds_aux (H S : Nat → Int) (n : Nat) (hs : ∀ i, i < n → S i < (i : Int)) : ∀ k, k ≤ n → (∀ i, i < k → 1 ≤ lam H S i ∧ lam H S i ≤ (i : Int) + 1) ∧ ∀ h, 0 ≤ back H (lam H S) k h ∧ back H (lam H S) k h ≤ (k : Int) := by
  intro k
  induction k with
  | zero => intro _; exact ⟨fun i hi => by omega, fun h => by unfold back; omega⟩
  | succ k ih =>
    intro hk
    obtain ⟨i1, i2⟩ := ih (by omega)
    have hl : 1 ≤ lam H S k ∧ lam H S k ≤ (k : Int) + 1 := by
      rw [lam_eq H S k (hs k (by omega))]
      have b := i2 (H k)
      have s := hs k (by omega)
      unfold pick
      split
      · have := i1 (S k).toNat (by omega); omega
      · omega
    refine ⟨fun i hi => ?_, fun h => ?_⟩
    · by_cases e : i = k
      · subst e; exact hl
      · exact i1 i (by omega)
    · unfold back
      split
      · omega
      · have := i2 h; omega

theorem lam_bounds (H S : Nat → Int) (n : Nat) (hs : ∀ i, i < n → S i < (i : Int)) (i : Nat) (hi : i < n) : 1 ≤ lam H S i ∧ lam H S i ≤ (i : Int) + 1 :=
  (bounds_aux H S n hs n (Nat.le_refl _)).1 i hi
theorem back_bounds (H S : Nat → Int) (n : Nat) (hs : ∀ i, i < n → S i < (i : Int)) (k : Nat) (hk : k ≤ n) (h : Int) : 0 ≤ back H (lam H S) k h ∧ back H (lam H S) k h ≤ (k : Int) :=
  (bounds_aux H S n hs k hk).2 h

/-- The send is earlier. -/
theorem lam_send (H S : Nat → Int) (i : Nat) (hs : S i < (i : Int)) (h0 : 0 ≤ S i) : lam H S (S i).toNat < lam H S i := by
  rw [lam_eq H S i hs]; unfold pick; split <;> omega

/-- The events of one host rise. -/
theorem back_ge (H S : Nat → Int) (n : Nat) (hs : ∀ i, i < n → S i < (i : Int)) : ∀ k, k ≤ n → ∀ j, j < k → lam H S j ≤ back H (lam H S) k (H j) := by
  intro k
  induction k with
  | zero => intro _ j hj; omega
  | succ k ih =>
    intro hk j hj
    unfold back
    by_cases e : j = k
    · subst e; rw [if_pos rfl]; exact Int.le_refl _
    · have h1 := ih (by omega) j (by omega)
      split
      · rename_i hh
        rw [lam_eq H S k (hs k (by omega)), hh]
        unfold pick; split <;> omega
      · exact h1

theorem lam_host (H S : Nat → Int) (n : Nat) (hs : ∀ i, i < n → S i < (i : Int)) (i j : Nat) (hi : i < n) (hj : j < i) (hh : H j = H i) : lam H S j < lam H S i := by
  have h1 := back_ge H S n hs i (by omega) j hj
  rw [hh] at h1
  rw [lam_eq H S i (hs i hi)]
  unfold pick; split <;> omega

end Go.Proofs.Ybulkaomc.Lamp
