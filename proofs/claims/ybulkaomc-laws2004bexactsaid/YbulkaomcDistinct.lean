/-
  THE WALKS OF 'distinct' (function 11), 'zzs2004bmodel' (12) AND 'LawS2004BExact' (5).
-/
import Derived.Test.YbulkaomcRows
import Derived.WalkKit
import Derived.WalkSpells
import Derived.WalkLawsBesides
import Derived.Deep.OwnRows
namespace Go.Proofs.Ybulkaomc.Dist
open Go.RowKit

theorem hideD {p : Prop} (h : p) : Hid p := h
theorem unhideD {p : Prop} (h : Hid p) : p := h

/-- Is x among the first k? -/
def seenB (z : Nat → Int) : Nat → Int → Bool
  | 0, _ => false
  | j + 1, x => (z j == x) || seenB z j x
/-- What both functions answer, from the i-th on, r of them left. -/
def ans (n : Int) (z : Nat → Int) : Nat → Nat → Int × Bool × Bool
  | _, 0 => (0, false, true)
  | i, r + 1 => if z i < 0 ∨ n ≤ z i then (z i, false, false) else if seenB z i (z i) = true then (z i, true, false) else ans n z (i + 1) r

theorem ans_out (n : Int) (z : Nat → Int) (i r : Nat) (h : z i < 0 ∨ n ≤ z i) : ans n z i (r + 1) = (z i, false, false) := by rw [ans, if_pos h]
theorem ans_twice (n : Int) (z : Nat → Int) (i r : Nat) (h : ¬ (z i < 0 ∨ n ≤ z i)) (h2 : seenB z i (z i) = true) : ans n z i (r + 1) = (z i, true, false) := by rw [ans, if_neg h, if_pos h2]
theorem ans_on (n : Int) (z : Nat → Int) (i r : Nat) (h : ¬ (z i < 0 ∨ n ≤ z i)) (h2 : seenB z i (z i) = false) : ans n z i (r + 1) = ans n z (i + 1) r := by rw [ans, if_neg h, if_neg (by simp [h2])]

theorem seen_hit (z : Nat → Int) (m k : Nat) (x : Int) (h : m < k) (e : z m = x) : seenB z k x = true := by
  induction k with
  | zero => omega
  | succ k ih =>
    rw [seenB]
    by_cases hm : m = k
    · subst hm; simp [e]
    · rw [ih (by omega)]; simp

def IsInts (w : World) (a : Option Addr) (len : Nat) (z : Nat → Int) : Prop :=
  ∀ i, i < len → ∃ b off, a = some ⟨b, off, none⟩ ∧ b < w.heap.size ∧ w.cell? ⟨b, off + i, none⟩ = some (.int .i64 (z i))

theorem info4 : (Yba.prog.info? 4).map (fun i => (i.zero, i.size, i.bytes)) = some (some (.bool false), 1, 1) := by kernel_rfl

theorem seen_step {w : World} {g k n x : Nat} {z : Nat → Int} (r : w.rowIs g 4 n (fun c => .bool (seenB z k (c : Int)))) (hx : z k = x) : (w.setCell ⟨g, x, none⟩ (.bool true)).rowIs g 4 n (fun c => .bool (seenB z (k + 1) (c : Int))) := by
  refine (r.set x (.bool true)).congr ?_
  intro i _
  show (if i = x then Value.bool true else .bool (seenB z k (i : Int))) = .bool (seenB z (k + 1) (i : Int))
  by_cases e : i = x
  · subst e; rw [if_pos rfl, seenB, hx]; simp
  · rw [if_neg e, seenB, hx]
    have : ((x : Int) == (i : Int)) = false := by simp; omega
    rw [this]; rfl

theorem ret3 {x y : Int} {t u o p : Bool} (r : Int × Bool × Bool) (h : r = (x, t, o)) (h1 : x = y) (h2 : t = u) (h3 : o = p) : Ending.returned (.tuple #[.int .i64 y, .bool u, .bool p]) = .returned (.tuple #[.int .i64 r.1, .bool r.2.1, .bool r.2.2]) := by
  subst h h1 h2 h3; rfl

set_option maxRecDepth 100000 in
set_option maxHeartbeats 1000000 in
theorem distinct_any (w : World) (n : Nat) (a : Option Addr) (len cap : Nat) (z : Nat → Int) (hn : n ≤ 1024) (hl : len ≤ 1024) (hst : IsInts w a len z) :
    Calls Yba.prog 11 #[.int .i64 n, .slice a len cap] w fun e w' => e = .returned (.tuple #[.int .i64 (ans n z 0 len).1, .bool (ans n z 0 len).2.1, .bool (ans n z 0 len).2.2]) ∧ Below w.heap.size w w' := by
  have mk := run_make_row' (P := Yba.prog) 64 4 (.bool false) 1 Yba.underlying64 info4 rfl .i64 .i64 n (by omega) (by omega)
  have Hst := hideD hst
  clear hst
  obtain ⟨r, hr⟩ : ∃ r, r = ans n z 0 len := ⟨_, rfl⟩
  rw [← hr]
  have Hr := hideD hr
  clear hr
  go_enter Yba.func11, Yba.ntmps11
  go_wp2
  go_loopw [14] (fun i wr => ∃ k : Nat, k ≤ len ∧ i = .int .i64 k ∧ wr.rowIs w.heap.size 4 n (fun c => .bool (seenB z k (c : Int))) ∧ ans n z 0 len = ans n z k (len - k) ∧ Below w.heap.size w wr) (fun i _ => len - (intOf i).toNat)
  case atStart => exact ⟨0, by omega, rfl, (World.rowIs_made w (.bool false) n 4).congr (fun i _ => by simp [seenB]), rfl, (Below.refl _ _).alloc (Nat.le_refl _) _⟩
  case round =>
    obtain ⟨k, hk, rfl, r1, hans, hbel⟩ := hrel
    have hz0 : w.heap.size < wr.heap.size := r1.lt
    clear mk
    by_cases hkl : (k : Int) < (len : Int)
    · obtain ⟨b, off, rfl, hb, c0⟩ := (unhideD Hst) k (by omega)
      rw [← hbel.cell (p := ⟨b, off + k, none⟩) hb] at c0
      rw [show len - k = (len - (k + 1)) + 1 from by omega] at hans
      have hbr : b < wr.heap.size := by have := hbel.size; omega
      generalize hx : z k = x at *
      have Hx := hideD hx
      have Hr1 := hideD r1
      have Hans := hideD hans
      have Hbel := hideD hbel
      clear hx r1 hans hbel
      by_cases h1 : x < 0
      · go_wp2
        go_ret3
        exact ⟨ret3 r ((unhideD Hr).trans ((unhideD Hans).trans (ans_out _ _ _ _ (by rw [unhideD Hx]; omega)))) (unhideD Hx) rfl rfl, unhideD Hbel⟩
      · by_cases h2 : (n : Int) ≤ x
        · go_wp2
          go_ret3
          exact ⟨ret3 r ((unhideD Hr).trans ((unhideD Hans).trans (ans_out _ _ _ _ (by rw [unhideD Hx]; omega)))) (unhideD Hx) rfl rfl, unhideD Hbel⟩
        · obtain ⟨xn, hxn⟩ := Int.eq_ofNat_of_zero_le (show 0 ≤ x by omega)
          subst hxn
          have hc := (unhideD Hr1).cell (i := xn) (by omega)
          have hf := (unhideD Hr1).frozen xn
          cases hb2 : seenB z k (xn : Int) with
          | true =>
            simp only [hb2] at hc
            have Hb2 := hideD hb2
            clear hb2
            go_wp2
            go_ret3
            exact ⟨ret3 r ((unhideD Hr).trans ((unhideD Hans).trans (ans_twice _ _ _ _ (by rw [unhideD Hx]; omega) (by rw [unhideD Hx]; exact unhideD Hb2)))) (unhideD Hx) rfl rfl, unhideD Hbel⟩
          | false =>
            simp only [hb2] at hc
            have Hb2 := hideD hb2
            clear hb2
            go_wp2
            go_roundw
            case rel => exact ⟨k + 1, by omega, by go_num, seen_step (unhideD Hr1) (unhideD Hx), (unhideD Hans).trans (ans_on _ _ _ _ (by rw [unhideD Hx]; omega) (by rw [unhideD Hx]; exact unhideD Hb2)), (unhideD Hbel).setCell (Nat.le_refl _) _⟩
            case measure => simp [intOf]; omega
    · have hkk : k = len := by omega
      subst hkk
      rw [Nat.sub_self] at hans
      have Hans := hideD hans
      have Hbel := hideD hbel
      clear r1 hans hbel
      go_wp2
      go_ret3
      exact ⟨ret3 r ((unhideD Hr).trans (unhideD Hans)) rfl rfl rfl, unhideD Hbel⟩

set_option maxRecDepth 100000 in
set_option maxHeartbeats 1000000 in
theorem model_any (w : World) (n : Nat) (a : Option Addr) (len cap : Nat) (z : Nat → Int) (_hn : n ≤ 1024) (hl : len ≤ 1024) (hst : IsInts w a len z) :
    Calls Yba.prog 12 #[.int .i64 n, .slice a len cap] w fun e w' => e = .returned (.tuple #[.int .i64 (ans n z 0 len).1, .bool (ans n z 0 len).2.1, .bool (ans n z 0 len).2.2]) ∧ w' = w := by
  have Hst := hideD hst
  clear hst
  obtain ⟨r, hr⟩ : ∃ r, r = ans n z 0 len := ⟨_, rfl⟩
  rw [← hr]
  have Hr := hideD hr
  clear hr
  go_enter Yba.func12, Yba.ntmps12
  go_wp2
  go_loop [7] (fun i => ∃ k : Nat, k ≤ len ∧ i = .int .i64 k ∧ ans n z 0 len = ans n z k (len - k)) (fun i => len - (intOf i).toNat)
  case atStart => exact ⟨0, by omega, rfl, rfl⟩
  case round =>
    obtain ⟨k, hk, rfl, hans⟩ := hrel
    by_cases hkl : (k : Int) < (len : Int)
    · obtain ⟨b, off, rfl, hb, c0⟩ := (unhideD Hst) k (by omega)
      rw [show len - k = (len - (k + 1)) + 1 from by omega] at hans
      generalize hx : z k = x at *
      have Hx := hideD hx
      have Hans := hideD hans
      clear hx hans
      by_cases h1 : x < 0
      · go_wp2
        go_ret3
        exact ⟨ret3 r ((unhideD Hr).trans ((unhideD Hans).trans (ans_out _ _ _ _ (by rw [unhideD Hx]; omega)))) (unhideD Hx) rfl rfl, rfl⟩
      · by_cases h2 : (n : Int) ≤ x
        · go_wp2
          go_ret3
          exact ⟨ret3 r ((unhideD Hr).trans ((unhideD Hans).trans (ans_out _ _ _ _ (by rw [unhideD Hx]; omega)))) (unhideD Hx) rfl rfl, rfl⟩
        · go_wp2
          go_loop [9] (fun j => ∃ m : Nat, m ≤ k ∧ j = .int .i64 m ∧ seenB z m x = false) (fun j => k - (intOf j).toNat)
          case atStart => exact ⟨0, by omega, rfl, rfl⟩
          case round =>
            obtain ⟨m, hm, rfl, hsn⟩ := hrel
            have Hsn := hideD hsn
            clear hsn
            by_cases hmk : (m : Int) < (k : Int)
            · obtain ⟨b', off', he, _, c1⟩ := (unhideD Hst) m (by omega)
              simp only [Option.some.injEq, Addr.mk.injEq] at he
              obtain ⟨rfl, rfl, _⟩ := he
              have hml : (m : Int) < (len : Int) := by omega
              by_cases hq : z m = x
              · have hqb : (z m == x) = true := by simp [hq]
                have Hq := hideD hq
                clear hq
                go_wp2
                go_ret3
                exact ⟨ret3 r ((unhideD Hr).trans ((unhideD Hans).trans (ans_twice _ _ _ _ (by rw [unhideD Hx]; omega) (by rw [unhideD Hx]; exact seen_hit z m k x (by omega) (unhideD Hq))))) (unhideD Hx) rfl rfl, rfl⟩
              · have hqb : (z m == x) = false := by simp [hq]
                have Hq := hideD hqb
                clear hq
                go_wp2
                go_round
                case rel => exact ⟨m + 1, by omega, by go_num, by rw [seenB, unhideD Hq, unhideD Hsn]; rfl⟩
                case measure => simp [intOf]; omega
            · have hmm : m = k := by omega
              subst hmm
              go_wp2
              go_round
              case rel => exact ⟨m + 1, by omega, by go_num, (unhideD Hans).trans (ans_on _ _ _ _ (by rw [unhideD Hx]; omega) (by rw [unhideD Hx]; exact unhideD Hsn))⟩
              case measure => simp [intOf]; omega
    · have hkk : k = len := by omega
      subst hkk
      rw [Nat.sub_self] at hans
      have Hans := hideD hans
      clear hans
      go_wp2
      go_ret3
      exact ⟨ret3 r ((unhideD Hr).trans (unhideD Hans)) rfl rfl rfl, rfl⟩
set_option maxRecDepth 100000 in
set_option maxHeartbeats 1000000 in
theorem bexact_walk (w : World) (n : Int) (a : Option Addr) (len cap : Nat) (z : Nat → Int) (hst : IsInts w a len z) :
    Calls Yba.prog 5 #[.int .i64 n, .slice a len cap] w fun e w' => e = .returned (.bool true) ∧ Below w.heap.size w w' := by
  by_cases hl : (1024 : Int) < (len : Int)
  · clear hst
    go_enter Yba.func5, Yba.ntmps5
    go_wp2
    go_ret
    exact ⟨rfl, Below.refl _ _⟩
  by_cases h0 : n < 0
  · clear hst
    go_enter Yba.func5, Yba.ntmps5
    go_wp2
    go_ret
    exact ⟨rfl, Below.refl _ _⟩
  by_cases h1 : 1024 < n
  · clear hst
    go_enter Yba.func5, Yba.ntmps5
    go_wp2
    go_ret
    exact ⟨rfl, Below.refl _ _⟩
  obtain ⟨m, hm⟩ := Int.eq_ofNat_of_zero_le (show 0 ≤ n by omega)
  subst hm
  have HD := hideD (fun ww => distinct_any ww m a len cap z (by omega) (by omega))
  have HM := hideD (fun ww => model_any ww m a len cap z (by omega) (by omega))
  have Hst := hideD hst
  clear hst
  generalize ans m z 0 len = r at *
  obtain ⟨x, t, o⟩ := r
  go_enter Yba.func5, Yba.ntmps5
  go_wp2_with fail
  refine (unhideD HD _ (unhideD Hst)).mono ?_
  rintro e w1 ⟨rfl, hb⟩
  have hst1 : IsInts w1 a len z := fun i hi => by
    obtain ⟨b, off, ha, hlt, hc⟩ := (unhideD Hst) i hi
    exact ⟨b, off, ha, by have := hb.size; omega, by rw [hb.cell (p := ⟨b, off + i, none⟩) hlt]; exact hc⟩
  have Hst1 := hideD hst1
  clear hst1
  go_wp2_with fail
  refine (unhideD HM _ (unhideD Hst1)).mono ?_
  rintro e w2 ⟨rfl, rfl⟩
  go_wp2
  go_ret
  exact ⟨rfl, hb⟩
end Go.Proofs.Ybulkaomc.Dist
