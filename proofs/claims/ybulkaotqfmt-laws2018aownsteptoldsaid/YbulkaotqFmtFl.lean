/-
  WHOLE NUMBERS AS float64 WORDS: plain arithmetic over Ieee; no Go in sight. 'Rep b z': the word b stands for the whole number z (a zero of either sign stands for 0). Sums, differences and products of such words, as long as the result stays below 2^53, are exact.
-/
import Ieee.Arith
namespace Go.Proofs.YbulkaotqFmt.Fl
open Ieee

/-- A datum that is the whole number z. -/
def RepD (d : Datum) (z : Int) : Prop := ∃ (s : Bool) (m k : Nat), d = .number s m (-(k : Int)) ∧ m = z.natAbs * 2 ^ k ∧ (z ≠ 0 → s = decide (z < 0))
def Rep (b : Nat) (z : Int) : Prop := RepD (double.read b) z
/-- Small enough to be exact. -/
def Small (z : Int) : Prop := -9007199254740992 < z ∧ z < 9007199254740992

theorem log2_mul_pow (a : Nat) (ha : a ≠ 0) : ∀ k, (a * 2 ^ k).log2 = a.log2 + k
  | 0 => by simp
  | k + 1 => by
    have h := log2_mul_pow a ha k
    have e : a * 2 ^ (k + 1) = 2 * (a * 2 ^ k) := by rw [Nat.pow_succ]; ac_rfl
    have h0 : a * 2 ^ k ≠ 0 := Nat.mul_ne_zero ha (Nat.ne_of_gt (Nat.two_pow_pos k))
    rw [e, Nat.log2_two_mul h0, h]; omega

theorem f1 : double.fractionBits = 52 := rfl
theorem f2 : double.leastPlace = -1074 := rfl
theorem f3 : double.binade = 2 ^ 52 := rfl
theorem f4 : double.infRung = 2047 * double.binade := by decide +kernel
theorem f5 : double.signWeight = 2048 * double.binade := by decide +kernel

/-- The significand of a. -/
theorem sig_bounds (B a : Nat) (hB : B = 2 ^ 52) (h0 : a ≠ 0) (h : a < 2 ^ 53) : a.log2 ≤ 52 ∧ B ≤ a * 2 ^ (52 - a.log2) ∧ a * 2 ^ (52 - a.log2) < 2 * B := by
  have hl : a.log2 < 53 := (Nat.log2_lt h0).2 h
  have lo := Nat.log2_self_le h0
  have hi := @Nat.lt_log2_self a
  have e1 : 2 ^ a.log2 * 2 ^ (52 - a.log2) = 2 ^ 52 := by rw [← Nat.pow_add, show a.log2 + (52 - a.log2) = 52 from by omega]
  have e2 : 2 ^ (a.log2 + 1) * 2 ^ (52 - a.log2) = 2 * 2 ^ 52 := by rw [← Nat.pow_add, show a.log2 + 1 + (52 - a.log2) = 52 + 1 from by omega, Nat.pow_succ, Nat.mul_comm]
  have hp : 0 < 2 ^ (52 - a.log2) := Nat.two_pow_pos _
  have g1 := Nat.mul_le_mul_right (2 ^ (52 - a.log2)) lo
  have g2 := Nat.mul_lt_mul_of_lt_of_le hi (Nat.le_refl (2 ^ (52 - a.log2))) hp
  rw [e1, ← hB] at g1
  rw [e2, ← hB] at g2
  exact ⟨by omega, g1, g2⟩

theorem cut_exact (s : Bool) (q d : Nat) (hd : d ≤ (q * 2 ^ d).log2 + 2) : Toward.even.cut s (q * 2 ^ d) d = q := by
  have hg : (1 : Nat) <<< min d ((q * 2 ^ d).log2 + 2) = 2 ^ d := by rw [Nat.min_eq_left hd, Nat.shiftLeft_eq, Nat.one_mul]
  have hp : 0 < 2 ^ d := Nat.two_pow_pos _
  unfold Toward.cut
  simp only [hg, Nat.mul_div_cancel _ hp, Nat.mul_mod_left]
  have h1 : decide (2 ^ d < 2 * 0) = false := by simp
  have h2 : (2 ^ d == 2 * 0) = false := by simp
  rw [h1, h2]; rfl

theorem kept_val (s : Bool) (a k : Nat) (h0 : a ≠ 0) (hl : a.log2 ≤ 52) :
    Toward.even.cut s ((a * 2 ^ k) <<< (-(k : Int) - ((a.log2 : Int) - 52)).toNat) ((a.log2 : Int) - 52 - -(k : Int)).toNat = a * 2 ^ (52 - a.log2) := by
  by_cases hk : k ≤ 52 - a.log2
  · have e1 : (-(k : Int) - ((a.log2 : Int) - 52)).toNat = 52 - a.log2 - k := by omega
    have e2 : ((a.log2 : Int) - 52 - -(k : Int)).toNat = 0 := by omega
    have e3 : k + (52 - a.log2 - k) = 52 - a.log2 := by omega
    rw [e1, e2, Nat.shiftLeft_eq, Nat.mul_assoc, ← Nat.pow_add, e3]
    have := cut_exact s (a * 2 ^ (52 - a.log2)) 0 (by omega)
    rw [Nat.pow_zero, Nat.mul_one] at this
    exact this
  · have e1 : (-(k : Int) - ((a.log2 : Int) - 52)).toNat = 0 := by omega
    have e2 : ((a.log2 : Int) - 52 - -(k : Int)).toNat = k - (52 - a.log2) := by omega
    have e4 : 52 - a.log2 + (k - (52 - a.log2)) = k := by omega
    rw [e1, e2, Nat.shiftLeft_eq, Nat.pow_zero, Nat.mul_one]
    have e3 : a * 2 ^ k = (a * 2 ^ (52 - a.log2)) * 2 ^ (k - (52 - a.log2)) := by
      rw [Nat.mul_assoc, ← Nat.pow_add, e4]
    rw [e3]
    refine cut_exact s _ _ ?_
    rw [← e3, log2_mul_pow a h0 k]; omega

theorem nearest_val (s : Bool) (a k : Nat) (h0 : a ≠ 0) (h : a < 2 ^ 53) :
    double.nearest s (a * 2 ^ k) (-(k : Int)) = double.word s ((a.log2 + 1022) * double.binade + a * 2 ^ (52 - a.log2)) := by
  obtain ⟨hl, lo, hi⟩ := sig_bounds double.binade a f3 h0 h
  have hm : a * 2 ^ k ≠ 0 := Nat.mul_ne_zero h0 (Nat.ne_of_gt (Nat.two_pow_pos k))
  have hkept := kept_val s a k h0 hl
  have hi4 := f4
  have hlg := log2_mul_pow a h0 k
  unfold Format.nearest
  rw [if_neg hm]
  rw [f1, f2]
  generalize double.binade = B at *
  generalize double.infRung = I at *
  generalize a * 2 ^ (52 - a.log2) = q at *
  have hlast : max (-(k : Int) + (((a * 2 ^ k).log2 : Nat) : Int) - ((52 : Nat) : Int)) (-1074) = (a.log2 : Int) - 52 := by rw [hlg]; omega
  have e4 : ((a.log2 : Int) - 52 - -1074).toNat = a.log2 + 1022 := by omega
  have hX : (a.log2 + 1022) * B ≤ 1074 * B := Nat.mul_le_mul_right B (by omega)
  have e5 : min ((a.log2 + 1022) * B + q) I = (a.log2 + 1022) * B + q := by omega
  simp only [hlast, hkept, e4, e5]

theorem modB (c q B : Nat) (h1 : B ≤ q) (h2 : q < 2 * B) : B + (c * B + q) % B = q ∧ (c * B + q) / B = c + 1 := by
  obtain ⟨r, rfl⟩ := Nat.exists_eq_add_of_le h1
  have hr : r < B := by omega
  have e : c * B + (B + r) = r + B * (c + 1) := by rw [Nat.mul_succ, Nat.mul_comm B c]; omega
  rw [e, Nat.add_mul_mod_self_left, Nat.mod_eq_of_lt hr, Nat.add_mul_div_left _ _ (by omega), Nat.div_eq_of_lt hr]
  omega

theorem read_word (s : Bool) (a : Nat) (h0 : a ≠ 0) (h : a < 2 ^ 53) :
    double.read (double.word s ((a.log2 + 1022) * double.binade + a * 2 ^ (52 - a.log2))) = .number s (a * 2 ^ (52 - a.log2)) (-((52 - a.log2 : Nat) : Int)) := by
  obtain ⟨hl, lo, hi⟩ := sig_bounds double.binade a f3 h0 h
  have h4 := f4
  have h5 := f5
  unfold Format.read Format.word
  rw [f2]
  generalize double.binade = B at *
  generalize double.infRung = I at *
  generalize double.signWeight = W at *
  generalize a * 2 ^ (52 - a.log2) = q at *
  obtain ⟨m1, m2⟩ := modB (a.log2 + 1022) q B lo hi
  have hX : (a.log2 + 1022) * B ≤ 1074 * B := Nat.mul_le_mul_right B (by omega)
  have hY : B ≤ (a.log2 + 1022) * B := by have := Nat.mul_le_mul_right B (show 1 ≤ a.log2 + 1022 by omega); omega
  have e3 : (-1074 : Int) + ((a.log2 + 1022 + 1 - 1 : Nat) : Int) = -((52 - a.log2 : Nat) : Int) := by omega
  have n1 : ¬ (a.log2 + 1022) * B + q < B := by omega
  have n2 : (a.log2 + 1022) * B + q < I := by omega
  generalize (a.log2 + 1022) * B + q = R at *
  have hW : 0 < W := by omega
  cases s with
  | false =>
    have d1 : R / W = 0 := Nat.div_eq_of_lt (by omega)
    have d2 : R % W = R := Nat.mod_eq_of_lt (by omega)
    simp only [Bool.false_eq_true, if_false, d1, d2, if_neg n1, if_pos n2, m1, m2, e3]
    rfl
  | true =>
    have d1 : (W + R) / W = 1 := by rw [Nat.add_comm, Nat.add_div_right _ hW, Nat.div_eq_of_lt (by omega)]
    have d2 : (W + R) % W = R := by rw [Nat.add_mod_left]; exact Nat.mod_eq_of_lt (by omega)
    simp only [if_true, d1, d2, if_neg n1, if_pos n2, m1, m2, e3]
    rfl

theorem read_zero (s : Bool) : double.read (double.word s 0) = .number s 0 (-((1074 : Nat) : Int)) := by
  cases s <;> decide +kernel

theorem zero_rep {s : Bool} (k : Nat) : RepD (.number s 0 (-(k : Int))) 0 := ⟨s, 0, k, rfl, (Nat.zero_mul _).symm, fun h => absurd rfl h⟩

/-- WRITTEN AND READ AGAIN IT IS THE SAME NUMBER. -/
theorem write_read {d : Datum} {z : Int} (h : RepD d z) (hs : Small z) : Rep (double.write d) z := by
  obtain ⟨s, m, k, rfl, rfl, hsg⟩ := h
  show RepD (double.read (double.nearest s (z.natAbs * 2 ^ k) (-(k : Int)))) z
  by_cases h0 : z = 0
  · subst h0
    have : double.nearest s ((0 : Int).natAbs * 2 ^ k) (-(k : Int)) = double.word s 0 := by
      unfold Format.nearest
      rw [if_pos (by simp)]
    rw [this, read_zero]
    exact zero_rep 1074
  · have ha : z.natAbs ≠ 0 := by omega
    have hb : z.natAbs < 2 ^ 53 := by unfold Small at hs; omega
    rw [nearest_val s _ k ha hb, read_word s _ ha hb]
    exact ⟨s, _, _, rfl, rfl, hsg⟩

theorem signed_val {s : Bool} {z : Int} {k up : Nat} (h : z ≠ 0 → s = decide (z < 0)) : signed s (z.natAbs * 2 ^ k) up = z * ((2 ^ (k + up) : Nat) : Int) := by
  unfold signed
  rw [Nat.shiftLeft_eq, Nat.mul_assoc, ← Nat.pow_add]
  by_cases h0 : z = 0
  · subst h0; simp
  · rw [h h0]
    by_cases hn : z < 0
    · simp only [hn, decide_true, if_true]
      rw [Int.natCast_mul, show ((z.natAbs : Nat) : Int) = -z from by omega, Int.neg_mul, Int.neg_neg]
    · simp only [hn, decide_false]
      rw [if_neg (by simp), Int.natCast_mul, show ((z.natAbs : Nat) : Int) = z from by omega]

theorem natAbs_mul_pow (z : Int) (K : Nat) : (z * ((2 ^ K : Nat) : Int)).natAbs = z.natAbs * 2 ^ K := by
  rw [Int.natAbs_mul]; rfl

theorem sum_rep {d e : Datum} {a b : Int} (hd : RepD d a) (he : RepD e b) : ∃ r, d.sum e = some r ∧ RepD r (a + b) := by
  obtain ⟨s, m, k, rfl, rfl, hs⟩ := hd
  obtain ⟨t, n, l, rfl, rfl, ht⟩ := he
  refine ⟨_, rfl, ?_⟩
  have hb : min (-(k : Int)) (-(l : Int)) = -((max k l : Nat) : Int) := by omega
  simp only [hb]
  have e1 : (-(k : Int) - -((max k l : Nat) : Int)).toNat = max k l - k := by omega
  have e2 : (-(l : Int) - -((max k l : Nat) : Int)).toNat = max k l - l := by omega
  have e3 : k + (max k l - k) = max k l := by omega
  have e4 : l + (max k l - l) = max k l := by omega
  rw [e1, e2, signed_val hs, signed_val ht, e3, e4, ← Int.add_mul]
  have hp : (0 : Int) < ((2 ^ max k l : Nat) : Int) := by have := Nat.two_pow_pos (max k l); omega
  refine ⟨_, _, max k l, rfl, natAbs_mul_pow _ _, fun h0 => ?_⟩
  have hne : (a + b) * ((2 ^ max k l : Nat) : Int) ≠ 0 := Int.mul_ne_zero h0 (by omega)
  rw [if_neg hne]
  by_cases hn : a + b < 0
  · simp only [hn, Int.mul_neg_of_neg_of_pos hn hp, decide_true]
  · have : 0 ≤ (a + b) * ((2 ^ max k l : Nat) : Int) := Int.mul_nonneg (by omega) (by omega)
    have h2 : ¬ (a + b) * ((2 ^ max k l : Nat) : Int) < 0 := by omega
    simp only [hn, h2, decide_false]

theorem opp_rep {d : Datum} {a : Int} (hd : RepD d a) : RepD d.opposite (-a) := by
  obtain ⟨s, m, k, rfl, rfl, hs⟩ := hd
  refine ⟨!s, _, k, rfl, by rw [Int.natAbs_neg], fun h0 => ?_⟩
  have ha : a ≠ 0 := by omega
  rw [hs ha]
  by_cases hn : a < 0
  · simp [hn]; omega
  · simp [hn]; omega

theorem mul_sign (a b : Int) (ha : a ≠ 0) (hb : b ≠ 0) : (decide (a < 0) ^^ decide (b < 0)) = decide (a * b < 0) := by
  by_cases h1 : a < 0 <;> by_cases h2 : b < 0
  · have := Int.mul_pos_of_neg_of_neg h1 h2
    have h3 : ¬ a * b < 0 := by omega
    simp [h1, h2, h3]
  · have := Int.mul_neg_of_neg_of_pos h1 (show 0 < b by omega)
    simp [h1, h2, this]
  · have := Int.mul_neg_of_pos_of_neg (show 0 < a by omega) h2
    simp [h1, h2, this]
  · have := Int.mul_pos (show 0 < a by omega) (show 0 < b by omega)
    have h3 : ¬ a * b < 0 := by omega
    simp [h1, h2, h3]

theorem prod_rep {d e : Datum} {a b : Int} (hd : RepD d a) (he : RepD e b) : ∃ r, d.product e = some r ∧ RepD r (a * b) := by
  obtain ⟨s, m, k, rfl, rfl, hs⟩ := hd
  obtain ⟨t, n, l, rfl, rfl, ht⟩ := he
  refine ⟨_, rfl, s ^^ t, _, k + l, by rw [show -(k : Int) + -(l : Int) = -((k + l : Nat) : Int) from by omega], ?_, fun h0 => ?_⟩
  · rw [Int.natAbs_mul, Nat.pow_add]; ac_rfl
  · have ha : a ≠ 0 := fun h => h0 (by rw [h]; simp)
    have hb : b ≠ 0 := fun h => h0 (by rw [h]; simp)
    rw [hs ha, ht hb, mul_sign a b ha hb]

theorem cmp_mul (a b P : Int) (hp : 0 < P) : compare (a * P) (b * P) = compare a b := by
  rcases Int.lt_trichotomy a b with h | h | h
  · rw [Int.compare_eq_lt.2 h, Int.compare_eq_lt.2 (Int.mul_lt_mul_of_pos_right h hp)]
  · subst h; simp
  · rw [Int.compare_eq_gt.2 h, Int.compare_eq_gt.2 (Int.mul_lt_mul_of_pos_right h hp)]

theorem order_rep {d e : Datum} {a b : Int} (hd : RepD d a) (he : RepD e b) : d.order e = some (compare a b) := by
  obtain ⟨s, m, k, rfl, rfl, hs⟩ := hd
  obtain ⟨t, n, l, rfl, rfl, ht⟩ := he
  show some (compare _ _) = _
  have hb : min (-(k : Int)) (-(l : Int)) = -((max k l : Nat) : Int) := by omega
  have e1 : (-(k : Int) - -((max k l : Nat) : Int)).toNat = max k l - k := by omega
  have e2 : (-(l : Int) - -((max k l : Nat) : Int)).toNat = max k l - l := by omega
  have e3 : k + (max k l - k) = max k l := by omega
  have e4 : l + (max k l - l) = max k l := by omega
  rw [hb, e1, e2, signed_val hs, signed_val ht, e3, e4, cmp_mul _ _ _ (by have := Nat.two_pow_pos (max k l); omega)]

/-! ### The operations on words -/
theorem add_rep {x y : Nat} {a b : Int} (hx : Rep x a) (hy : Rep y b) (hs : Small (a + b)) : ∃ r, double.add x y = some r ∧ Rep r (a + b) := by
  obtain ⟨d, h1, h2⟩ := sum_rep hx hy
  exact ⟨_, by unfold Format.add; rw [h1]; rfl, write_read h2 hs⟩
theorem sub_rep {x y : Nat} {a b : Int} (hx : Rep x a) (hy : Rep y b) (hs : Small (a - b)) : ∃ r, double.sub x y = some r ∧ Rep r (a - b) := by
  obtain ⟨d, h1, h2⟩ := sum_rep hx (opp_rep hy)
  exact ⟨_, by unfold Format.sub; rw [h1]; rfl, write_read h2 hs⟩
theorem mul_rep {x y : Nat} {a b : Int} (hx : Rep x a) (hy : Rep y b) (hs : Small (a * b)) : ∃ r, double.mul x y = some r ∧ Rep r (a * b) := by
  obtain ⟨d, h1, h2⟩ := prod_rep hx hy
  exact ⟨_, by unfold Format.mul; rw [h1]; rfl, write_read h2 hs⟩
theorem cmp_rep {x y : Nat} {a b : Int} (hx : Rep x a) (hy : Rep y b) : double.order x y = some (compare a b) := order_rep hx hy
theorem eq_rep {x y : Nat} {a b : Int} (hx : Rep x a) (hy : Rep y b) : (double.order x y == some .eq) = (a == b) := by
  rw [cmp_rep hx hy]
  rcases Int.lt_trichotomy a b with h | h | h
  · rw [Int.compare_eq_lt.2 h]; have : (a == b) = false := by simp; omega
    rw [this]; rfl
  · subst h; simp
  · rw [Int.compare_eq_gt.2 h]; have : (a == b) = false := by simp; omega
    rw [this]; rfl
theorem int_rep (n : Int) (hs : Small n) : Rep (double.write (.number (n < 0) n.natAbs 0)) n :=
  write_read ⟨_, _, 0, rfl, by simp, fun _ => rfl⟩ hs
theorem read0 : double.read 0 = .number false 0 (-((1074 : Nat) : Int)) := by decide +kernel
theorem rep0 : Rep 0 0 := by unfold Rep; rw [read0]; exact zero_rep 1074
end Go.Proofs.YbulkaotqFmt.Fl
