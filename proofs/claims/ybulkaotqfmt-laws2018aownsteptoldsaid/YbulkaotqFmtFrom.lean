/-
  'FromRows' (11), 'matrix' (27), 'slices.Clone' (15), 'AppendEntries' onto nil (9).
-/
import Derived.Test.YbulkaotqFmtLeaf
namespace Go.Proofs.YbulkaotqFmt.Wk
open Go.RowKit

/-- 'copy' of c floats from a row's head into another row, from o on. -/
theorem copy_at (W : World) (b n sb c cap cap' : Nat) (F g : Nat → Value) (o : Nat) (hr : W.rowIs b 26 n F) (hs : W.rowIs sb 26 c g) (ho : o + c ≤ n) (h1 : ∀ j, j < c → (g j).oneCell' = true) :
    ∃ w2, (Builtin.copy_ #[27, 27] 3 #[.slice (some ⟨b, o, none⟩) c cap, .slice (some ⟨sb, 0, none⟩) c cap']).run Ybaf.prog W = .ok (goInt c) w2 ∧
      w2.rowIs b 26 n (fun j => if o ≤ j ∧ j < o + c then g (j - o) else F j) ∧ Fr [b] W w2 ∧ w2.heap.size = W.heap.size := by
  obtain ⟨cur, hg, hsz, hc⟩ := hr
  have hrun := run_copy_row (P := Ybaf.prog) W 27 27 3 26 b o c cap ⟨sb, 0, none⟩ c cap' cur 26 ((List.range c).map g) Ybaf.underlying27 size26 hg (by simp) (by
    intro j v hv
    have hj : j < c := by
      by_cases hj : j < c
      · exact hj
      · simp [hj] at hv
    simp [hj] at hv
    subst hv
    rw [Go.WideShapes.add_plain, Nat.zero_add]
    exact hs.cell hj) (by simp; omega) (by
    intro v hv
    simp at hv
    obtain ⟨j, hj, rfl⟩ := hv
    exact h1 j hj)
  refine ⟨_, by simpa using hrun, ⟨_, setRow_heap _ _ _ _ _ _ hg, ?_, fun j hj => ?_⟩, ⟨rfl, rfl, rfl, by simp, fun k _ hk => setRow_other _ _ _ _ (by simpa using hk)⟩, by simp⟩
  · simp; omega
  · simp only [List.getElem?_toArray]
    by_cases h2 : j < o
    · rw [if_neg (by omega), List.getElem?_append_left (by simp; omega), List.getElem?_take_of_lt h2]
      have := hc j hj
      simpa using this
    · by_cases h3 : j < o + c
      · rw [if_pos ⟨by omega, h3⟩, List.getElem?_append_right (by simp; omega), List.getElem?_append_left (by simp; omega)]
        have e : j - (List.take o cur.toList).length = j - o := by simp; omega
        rw [e]
        have hlt : j - o < c := by omega
        simp [hlt]
      · rw [if_neg (by omega), List.getElem?_append_right (by simp; omega), List.getElem?_append_right (by simp; omega)]
        have := hc j hj
        simp only [List.length_take, List.length_map, List.length_range, Array.length_toList, List.getElem?_drop]
        rw [show o + c + (j - min o cur.size - c) = j from by omega]
        simpa using this

/-- A slice of rows that came in. -/
structure RowsIn (w : World) (ob r c : Nat) (rb : Nat → Nat) (f : Nat → Nat → Nat) : Prop where
  outer : w.rowIs ob 27 r (fun i => .slice (some ⟨rb i, 0, none⟩) c c)
  row : ∀ i, i < r → w.rowIs (rb i) 26 c (fv (f i))
def flat (c : Nat) (f : Nat → Nat → Nat) (k : Nat) : Nat := f (k / c) (k % c)
def fill (c : Nat) (f : Nat → Nat → Nat) (k j : Nat) : Nat := if j < k * c then flat c f j else 0
/-- A finite word. -/
def Fin1 (x : Nat) : Prop := ∃ r, Ieee.double.sub x x = some r ∧ Ieee.double.order r 0 = some .eq

/-- Two steps, of which the second may turn blocks that the first has laid. -/
theorem Fr.new {S T : List Nat} {a b c : World} (h : Fr S a b) (k : Fr T b c) (hT : ∀ x ∈ T, x ∈ S ∨ a.heap.size ≤ x) : Fr S a c :=
  ⟨k.os.trans h.os, k.tape.trans h.tape, k.output.trans h.output, Nat.le_trans h.size k.size, fun x hx hS => (k.block x (Nat.lt_of_lt_of_le hx h.size) (fun m => by rcases hT x m with m2 | m2; exact hS m2; omega)).trans (h.block x hx hS)⟩
theorem fill_step (c : Nat) (f : Nat → Nat → Nat) (k j : Nat) (hc : 0 < c) : (if k * c ≤ j ∧ j < k * c + c then fv (f k) (j - k * c) else fv (fill c f k) j) = fv (fill c f (k + 1)) j := by
  unfold fv fill flat
  have e : (k + 1) * c = k * c + c := by rw [Nat.add_mul, Nat.one_mul]
  by_cases h : k * c ≤ j ∧ j < k * c + c
  · rw [if_pos h, if_pos (by omega)]
    have e1 : j / c = k := by
      rw [Nat.div_eq_iff hc]; omega
    have e2 : j % c = j - k * c := by
      have := Nat.div_add_mod j c
      rw [e1, Nat.mul_comm] at this; omega
    rw [e1, e2]
  · rw [if_neg h]
    by_cases h2 : j < k * c
    · rw [if_pos h2, if_pos (by omega)]
    · rw [if_neg h2, if_neg (by omega)]

set_option maxRecDepth 100000 in
set_option maxHeartbeats 1000000 in
theorem fromRows_any (w : World) (ob r c : Nat) (rb : Nat → Nat) (f : Nat → Nat → Nat) (hs : Shape r c) (hin : RowsIn w ob r c rb f) (hfin : ∀ i, i < r → ∀ j, j < c → Fin1 (f i j)) :
    Calls Ybaf.prog 11 #[.slice (some ⟨ob, 0, none⟩) r r] w fun e w' => e = .returned (.tuple #[.pointer (some ⟨w.heap.size + 1, 0, none⟩), .nilIface]) ∧ Mat w' (w.heap.size + 1) r c w.heap.size (flat c f) ∧ Fr [] w w' ∧ w'.heap.size = w.heap.size + 2 := by
  have hr1 : (0 : Int) < (r : Int) := by obtain ⟨h, _⟩ := hs; omega
  have hr2 : (r : Int) ≤ 2 := by obtain ⟨h, _⟩ := hs; omega
  have hc1 : (0 : Int) < (c : Int) := by obtain ⟨_, h⟩ := hs; omega
  have hc2 : (c : Int) ≤ 2 := by obtain ⟨_, h⟩ := hs; omega
  have hr0 : ((r : Int) == 0) = false := by simp; omega
  have hc0 : ((c : Int) == 0) = false := by simp; omega
  have o0 := hin.outer.cell (i := 0) (by omega)
  have Hin := hide hin
  have Hfin := hide hfin
  have Hs := hide hs
  clear hin hfin hs
  go_enter Ybaf.func11, Ybaf.ntmps11
  go_wp2_with fail
  refine (new_any _ r c (unhide Hs)).mono ?_
  rintro e w1 ⟨rfl, hm, hfr, hsz⟩
  have Hm := hide hm
  have Hfr := hide hfr
  have Hsz := hide hsz
  clear hm hfr hsz
  go_wp2
  go_loopw [28] (fun i wr => ∃ k : Nat, k ≤ r ∧ i = .int .i64 k ∧ Mat wr (w.heap.size + 1) r c w.heap.size (fill c f k) ∧ Fr [] w wr ∧ wr.heap.size = w.heap.size + 2) (fun i _ => r - (intOf i).toNat)
  case atStart => exact ⟨0, by omega, rfl, ⟨(unhide Hm).head, (unhide Hm).data.congr (fun j _ => by simp [fv, fill])⟩, unhide Hfr, unhide Hsz⟩
  case round =>
    obtain ⟨k, hk, rfl, hm, hfr, hsz⟩ := hrel
    by_cases hkr : (k : Int) < (r : Int)
    · have ok := (hfr.row (unhide Hin).outer (by simp)).cell (i := k) (by omega)
      have rk := hfr.row ((unhide Hin).row k (by omega)) (by simp)
      have fk := (unhide Hfin) k (by omega)
      have m1 := hm.c1
      have Hm := hide hm
      have Hfr := hide hfr
      have Hsz := hide hsz
      have Hrk := hide rk
      have Hfk := hide fk
      clear hm hfr hsz rk fk
      go_wp2_with (go_at_call 25; refine (fnf_any _ (rb k) 0 c c (f k) (by omega) (fun j hj => by rw [Nat.zero_add]; exact (unhide Hrk).cell hj) (unhide Hfk)).mono ?_; rintro e w' ⟨rfl, rfl⟩)
      refine (row_run _ _ r c _ _ (unhide Hm) (unhide Hs) k (by omega)).mono ?_
      rintro e w2 ⟨rfl, q, rfl⟩
      obtain ⟨w3, hcp, hrow, hfr3, hsz3⟩ := copy_at (wr.drewN q) w.heap.size (r * c) (rb k) c (r * c - k * c) c (fv (fill c f k)) (fv (f k)) (k * c) (rowIs_drewN (unhide Hm).data q) (rowIs_drewN (unhide Hrk) q) (by have := Nat.mul_le_mul_right c (show k + 1 ≤ r by omega); rw [Nat.add_mul, Nat.one_mul] at this; omega) (fun j _ => rfl)
      have Hrow := hide hrow
      have Hfr3 := hide hfr3
      have Hsz3 := hide hsz3
      clear hrow hfr3 hsz3
      go_wp2
      go_roundw
      case rel =>
        have hd : w.heap.size + 1 ∉ [w.heap.size] := by simp
        refine ⟨k + 1, by omega, by go_num, ⟨(unhide Hfr3).row (rowIs_drewN (unhide Hm).head q) hd, (unhide Hrow).congr (fun j _ => fill_step c f k j (by omega))⟩, ?_, ?_⟩
        · exact ((unhide Hfr).drewN q).new (unhide Hfr3) (by simp)
        · exact (unhide Hsz3).trans (unhide Hsz)
      case measure => simp [intOf]; omega
    · have hkk : k = r := by omega
      subst hkk
      have Hm := hide hm
      have Hfr := hide hfr
      have Hsz := hide hsz
      clear hm hfr hsz
      go_wp2
      go_ret2
      exact ⟨rfl, ⟨(unhide Hm).head, (unhide Hm).data.congr (fun j hj => by simp [fv, fill, hj])⟩, unhide Hfr, unhide Hsz⟩

theorem neq_nil35 (w : World) : (binOp .neq 35 .nilIface .nilIface).run Ybaf.prog w = .ok (.bool false) w := by kernel_rfl

set_option maxRecDepth 100000 in
set_option maxHeartbeats 1000000 in
theorem matrix_any (w : World) (nm : ByteArray) (ob r c : Nat) (rb : Nat → Nat) (f : Nat → Nat → Nat) (hs : Shape r c) (hin : RowsIn w ob r c rb f) (hfin : ∀ i, i < r → ∀ j, j < c → Fin1 (f i j)) :
    Calls Ybaf.prog 27 #[.string nm, .slice (some ⟨ob, 0, none⟩) r r, .int .i64 r, .int .i64 c] w fun e w' => e = .returned (.tuple #[.pointer (some ⟨w.heap.size + 1, 0, none⟩), .nilIface]) ∧ Mat w' (w.heap.size + 1) r c w.heap.size (flat c f) ∧ Fr [] w w' ∧ w'.heap.size = w.heap.size + 2 := by
  have hn := neq_nil35
  have Hin := hide hin
  have Hfin := hide hfin
  have Hs := hide hs
  clear hin hfin hs
  go_enter Ybaf.func27, Ybaf.ntmps27
  go_wp2_with fail
  refine (fromRows_any _ ob r c rb f (unhide Hs) (unhide Hin) (unhide Hfin)).mono ?_
  rintro e w1 ⟨rfl, hm, hfr, hsz⟩
  have Hm := hide hm
  have Hfr := hide hfr
  have Hsz := hide hsz
  clear hm hfr hsz
  go_wp2_with fail
  refine (dims_any _ _ r c _ _ (unhide Hm)).mono ?_
  rintro e w2 ⟨rfl, q, rfl⟩
  go_wp2
  go_ret2
  exact ⟨rfl, (unhide Hm).drewN q, (unhide Hfr).drewN q, unhide Hsz⟩

/-- From what the law of append leaves to a row. -/
theorem row_of_own {w1 : World} {base n : Nat} {g0 : Nat → Value} {v' : Value} (h : w1.ownsRow base 26 1 v' n ((List.range n).map g0)) (hv : v' ≠ .slice none 0 0) :
    ∃ g c f, v' = .slice (some ⟨g, 0, none⟩) n c ∧ w1.rowIs g 26 c f ∧ n ≤ c ∧ (∀ i, i < n → f i = g0 i) ∧ base ≤ g := by
  obtain ⟨_, h2⟩ := h
  rcases h2 with ⟨e, _⟩ | ⟨g, c, cur, e, hg, hh, hnc, _, hsz, htake⟩
  · exact absurd e hv
  · rw [Nat.mul_one] at hsz htake
    refine ⟨g, c, fun i => cur[i]?.getD undef, e, ⟨cur, hh, hsz, fun i hi => ?_⟩, hnc, fun i hi => ?_, hg⟩
    · have : i < cur.size := by omega
      simp [this]
    · have h1 : (cur.toList.take n)[i]? = ((List.range n).map g0)[i]? := by rw [htake]
      rw [List.getElem?_take_of_lt hi] at h1
      simp [hi] at h1
      simp [h1]
theorem own_empty (w : World) : (w.alloc (.cells #[] 26)).ownsRow w.heap.size 26 1 (.slice (some ⟨w.heap.size, 0, none⟩) 0 0) 0 [] :=
  ⟨rfl, .inr ⟨w.heap.size, 0, #[], rfl, Nat.le_refl _, heap_alloc_new _ _, Nat.zero_le _, Nat.zero_le _, rfl, rfl⟩⟩
/-- A slice of the call's own, in a row that may have room to spare: its floats are f's. -/
def Vec (w : World) (g n c : Nat) (f : Nat → Nat) : Prop := ∃ F, w.rowIs g 26 c F ∧ n ≤ c ∧ ∀ i, i < n → F i = fv f i
theorem Vec.cell {w : World} {g n c : Nat} {f : Nat → Nat} (h : Vec w g n c f) {i : Nat} (hi : i < n) : w.cell? ⟨g, i, none⟩ = some (fv f i) := by
  obtain ⟨F, hr, hc, hf⟩ := h
  rw [hr.cell (by omega), hf i hi]
theorem Vec.fr {S : List Nat} {w w' : World} {g n c : Nat} {f : Nat → Nat} (h : Vec w g n c f) (k : Fr S w w') (hg : g ∉ S) : Vec w' g n c f := by
  obtain ⟨F, hr, hc, hf⟩ := h
  exact ⟨F, k.row hr hg, hc, hf⟩
theorem Vec.lt {w : World} {g n c : Nat} {f : Nat → Nat} (h : Vec w g n c f) : g < w.heap.size := by obtain ⟨F, hr, _⟩ := h; exact hr.lt

set_option maxHeartbeats 400000 in
/-- 'slices.Clone'. -/
theorem clone_any (w : World) (b n cap : Nat) (f : Nat → Nat) (h : w.rowIs b 26 n (fv f)) (hn : n ≤ 1000) :
    Calls Ybaf.prog 15 #[.slice (some ⟨b, 0, none⟩) n cap] w fun e w' => ∃ g c, e = .returned (.slice (some ⟨g, 0, none⟩) n c) ∧ Vec w' g n c f ∧ w.heap.size ≤ g ∧ Fr [] w w' := by
  have hq := nil_eq
  have Hat := hide h
  obtain ⟨i0, hi, hz0, hz1, hz2⟩ := info_parts info26
  clear h
  go_enter Ybaf.func15, Ybaf.ntmps15
  have hown := own_empty w
  go_wp2_with (at_builtin; refine wpList_append_own _ rfl _ _ 27 rfl w.heap.size 26 i0 (.float .f64 0) 1 8 Ybaf.underlying27 hi hz0 hz1 hz2 rfl (by decide) _ 0 [] rfl hown ⟨b, 0, none⟩ n cap ((List.range n).map (fv f)) rfl (by simp) ?c1 ?c2 ?c3 ?c4 ?c5 ?_)
  case c1 =>
    intro j u hu
    have hj : j < n := by
      by_cases hj : j < n
      · exact hj
      · simp [hj] at hu
    simp [hj] at hu
    subst hu
    rw [Go.WideShapes.add_plain, Nat.zero_add]
    exact ((unhide Hat).alloc _).cell hj
  case c2 =>
    intro v hv
    simp at hv
    obtain ⟨i, _, rfl⟩ := hv
    rfl
  case c3 => unfold maxLen; omega
  case c4 => omega
  case c5 => simp
  intro v' w1 hown' hgrow hnil
  obtain ⟨g, c, F, rfl, hrow, hnc, hf, hg⟩ := row_of_own hown' hnil
  have hfr : Fr [] w w1 := ((Fr.refl [] w).alloc _).grown hgrow (by intro k hk; simp [Value.ownBlock] at hk; exact .inr (by omega))
  clear hown hown' hgrow hnil
  have Hrow := hide hrow
  have Hf := hide hf
  have Hfr := hide hfr
  clear hrow hf hfr
  go_wp2
  go_ret
  exact ⟨g, c, rfl, ⟨F, unhide Hrow, hnc, unhide Hf⟩, hg, unhide Hfr⟩

set_option maxHeartbeats 400000 in
/-- 'AppendEntries(nil, a)'. -/
theorem entries_any (w : World) (d r c b : Nat) (f : Nat → Nat) (h : Mat w d r c b f) (n : Nat) (hrc : r * c = n) (hn : n ≤ 1000) (hn0 : 0 < n) :
    Calls Ybaf.prog 9 #[.slice none 0 0, .pointer (some ⟨d, 0, none⟩)] w fun e w' => ∃ g cg, e = .returned (.slice (some ⟨g, 0, none⟩) n cg) ∧ Vec w' g n cg f ∧ w.heap.size ≤ g ∧ Fr [] w w' := by
  subst hrc
  have c2 := h.c2
  have Hat := hide h.data
  obtain ⟨i0, hi, hz0, hz1, hz2⟩ := info_parts info26
  clear h
  generalize r * c = n at *
  go_enter Ybaf.func9, Ybaf.ntmps9
  have hown := World.ownsRow_nil w w.heap.size 26 1
  go_wp2_with (at_builtin; refine wpList_append_own _ rfl _ _ 27 rfl w.heap.size 26 i0 (.float .f64 0) 1 8 Ybaf.underlying27 hi hz0 hz1 hz2 rfl (by decide) _ 0 [] rfl hown ⟨b, 0, none⟩ n n ((List.range n).map (fv f)) rfl (by simp) ?c1 ?c2 ?c3 ?c4 ?c5 ?_)
  case c1 =>
    intro j u hu
    have hj : j < n := by
      by_cases hj : j < n
      · exact hj
      · simp [hj] at hu
    simp [hj] at hu
    subst hu
    rw [Go.WideShapes.add_plain, Nat.zero_add]
    exact (unhide Hat).cell hj
  case c2 =>
    intro v hv
    simp at hv
    obtain ⟨i, _, rfl⟩ := hv
    rfl
  case c3 => unfold maxLen; omega
  case c4 => omega
  case c5 => simp
  intro v' w1 hown' hgrow hnil
  have hv : v' ≠ .slice none 0 0 := fun e => by have := hnil.1 e; omega
  obtain ⟨g, c, F, rfl, hrow, hnc, hf, hg⟩ := row_of_own hown' hv
  have hfr : Fr [] w w1 := (Fr.refl [] w).grown hgrow (by intro k hk; simp [Value.ownBlock] at hk)
  clear hown hown' hgrow hnil hv
  have Hrow := hide hrow
  have Hf := hide hf
  have Hfr := hide hfr
  clear hrow hf hfr
  go_wp2
  go_ret
  exact ⟨g, c, rfl, ⟨F, unhide Hrow, hnc, unhide Hf⟩, hg, unhide Hfr⟩
end Go.Proofs.YbulkaotqFmt.Wk
