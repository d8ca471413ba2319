/-
  The law's own motion: 'dims' (76), 'at' (75).
-/
import Derived.Test.YbulkaotqFmtLog
import Derived.Test.YbulkaotqFmtRow2
namespace Go.Proofs.YbulkaotqFmt.Wk
open Go.RowKit Fl

theorem dims76 (w : World) (a : Addr) : Calls Ybaf.prog 76 #[.pointer (some a)] w fun e w' => e = .returned (.tuple #[.int .i64 2, .int .i64 0, .int .i64 2]) ∧ w = w' := by
  go_enter Ybaf.func76, Ybaf.ntmps76
  go_wp2
  go_ret3
  exact ⟨rfl, rfl⟩

/-- The motion's four cells. -/
def mv (a wd id : Nat) (log : Value) : Nat → Value
  | 0 => .pointer (some ⟨a, 0, none⟩)
  | 1 => .pointer (some ⟨wd, 0, none⟩)
  | 2 => .pointer (some ⟨id, 0, none⟩)
  | 3 => log
  | _ => undef
/-- A diagonal of two numbers. -/
def dg2 (a b : Int) : Nat → Int
  | 0 => a
  | 3 => b
  | _ => 0
def dgw (a b : Nat) : Nat → Nat → Nat
  | 0, 0 => a
  | 1, 1 => b
  | _, _ => 0

theorem ownsRow_fr {S : List Nat} {w w' : World} {B n : Nat} {v : Value} {xs : List Value} (h : w.ownsRow B 26 1 v n xs) (k : Fr S w w') (hS : ∀ g, v.ownBlock = some g → g ∉ S) : w'.ownsRow B 26 1 v n xs := by
  obtain ⟨h1, h2 | ⟨g, cap, cur, hv, hb, hg, h3, h4, h5, h6⟩⟩ := h
  · exact ⟨h1, .inl h2⟩
  · refine ⟨h1, .inr ⟨g, cap, cur, hv, hb, ?_, h3, h4, h5, h6⟩⟩
    rw [k.block g (by
      by_cases hl : g < w.heap.size
      · exact hl
      · rw [Array.getElem?_eq_none (by omega)] at hg; cases hg) (hS g (by rw [hv]; rfl))]
    exact hg

/-- What 'at' is told. -/
structure AtPre (w : World) (mb da ba dwd bw did bi df bf dw bo lb t n : Nat) (fa fw fi gf gw : Nat → Nat) (za zw : Nat → Int) (zt : Int) (A W T : Nat) (vlog : Value) (xs : List Value) : Prop where
  mo : w.rowIs mb 58 4 (mv da dwd did vlog)
  ma : Mat w da 2 2 ba fa
  mw : Mat w dwd 2 2 bw fw
  mi : Mat w did 2 2 bi fi
  mf : Mat w df 2 2 bf gf
  mn : Mat w dw 2 2 bo gw
  log : w.ownsRow 0 26 1 vlog n xs
  hn : n ≤ 10
  hlb : ∀ g, vlog.ownBlock = some g → g = lb
  l1 : ba ≠ lb
  l2 : bw ≠ lb
  l3 : bi ≠ lb
  l4 : bf ≠ lb
  l5 : bo ≠ lb
  k1 : da ≠ lb
  k2 : dwd ≠ lb
  k3 : did ≠ lb
  k4 : df ≠ lb
  k5 : dw ≠ lb
  k6 : mb ≠ lb
  n1 : bf ≠ ba
  n2 : bf ≠ bw
  n3 : bf ≠ bi
  n4 : bf ≠ bo
  n5 : bo ≠ bw
  n6 : bo ≠ bi
  ra : ∀ i, i < 4 → Rep (fa i) (za i) ∧ Bd (za i) A
  rw : ∀ i, i < 4 → Rep (fw i) (zw i) ∧ Bd (zw i) W
  ri : ∀ i, i < 4 → Rep (fi i) (dg2 1 1 i) ∧ Bd (dg2 1 1 i) 1
  rt : Rep t zt ∧ Bd zt T
  hA : 2 * (A * T) < 9007199254740992
  hW : 2 * (W * 1) < 9007199254740992

set_option maxRecDepth 100000 in
set_option maxHeartbeats 4000000 in
theorem at_any (w : World) (mb da ba dwd bw did bi df bf dw bo lb t n : Nat) (fa fw fi gf gw : Nat → Nat) (za zw : Nat → Int) (zt : Int) (A W T : Nat) (vlog vB : Value) (xs : List Value) (H : AtPre w mb da ba dwd bw did bi df bf dw bo lb t n fa fw fi gf gw za zw zt A W T vlog xs) :
    Calls Ybaf.prog 75 #[.pointer (some ⟨mb, 0, none⟩), .float .f64 t, .pointer (some ⟨df, 0, none⟩), vB, .pointer (some ⟨dw, 0, none⟩)] w fun e w' => e = .returned (.tuple #[]) ∧ Fr [mb, lb, bf, bo] w w' ∧
      (∃ v, w'.rowIs mb 58 4 (mv da dwd did v) ∧ w'.ownsRow 0 26 1 v (n + 1) (xs ++ [.float .f64 t]) ∧ ∀ g, v.ownBlock = some g → g = lb ∨ w.heap.size ≤ g) ∧
      (∃ g, Mat w' df 2 2 bf g ∧ Rep (g 0) (za 0 * zt + za 1 * 0) ∧ Rep (g 1) (za 0 * 0 + za 1 * zt) ∧ Rep (g 2) (za 0 * 0 + za 1 * zt) ∧ Rep (g 3) (za 2 * 0 + za 3 * zt)) ∧
      ∃ g, Mat w' dw 2 2 bo g ∧ Rep (g 0) (zw 0 * 1 + zw 1 * 0) ∧ Rep (g 1) (zw 0 * 0 + zw 1 * 1) ∧ Rep (g 2) (zw 0 * 0 + zw 1 * 1) ∧ Rep (g 3) (zw 2 * 0 + zw 3 * 1) := by
  have c3 : w.cell? ⟨mb, 3, none⟩ = some vlog := H.mo.cell (i := 3) (by omega)
  have hmb := H.mo.lt
  obtain ⟨i0, hi, hz0, hz1, hz2⟩ := info_parts info26
  have hal : (w.alloc (.cells #[.float .f64 t] 26)).cell? ⟨w.heap.size, 0, none⟩ = some (.float .f64 t) := (World.rowIs_alloc w #[.float .f64 t] 26 (fun _ => .float .f64 t) (by
      intro i hi
      match i, hi with
      | 0, _ => rfl
      | i + 1, h => exact absurd h (by simp))).cell (i := 0) (by simp)
  have hown : (w.alloc (.cells #[.float .f64 t] 26)).ownsRow 0 26 1 vlog n xs := ownsRow_fr H.log ((Fr.refl [] w).alloc _) (by simp)
  have Hal := hide hal
  have HH := hide H
  have hn := H.hn
  clear hal H
  go_enter Ybaf.func75, Ybaf.ntmps75
  go_wp2_with (at_builtin; refine wpList_append_log _ rfl _ _ 27 rfl i0 (.float .f64 0) 8 Ybaf.underlying27 hi hz0 hz1 hz2 rfl vlog n xs rfl hown ⟨w.heap.size, 0, none⟩ 1 1 [.float .f64 t] rfl (by simp) ?c1 ?c2 (by omega) ?c3 ?c4 ?_)
  case c1 =>
    intro j u hu
    match j, hu with
    | 0, hu =>
      simp at hu
      subst hu
      exact unhide Hal
    | j + 1, hu => simp at hu
  case c2 =>
    intro v hv
    simp only [List.mem_singleton] at hv
    subst hv
    rfl
  case c3 => unfold maxLen; omega
  case c4 => omega
  intro v' w1 hown' hgrow lg lc hv' hlg
  subst hv'
  have hfr : Fr [lb] w w1 := ((Fr.refl [lb] w).alloc _).grown hgrow (by intro k hk; rw [(unhide HH).hlb k hk]; exact .inl (by simp))
  have hlg' : lg = lb ∨ w.heap.size ≤ lg := by
    rcases hlg with h | h
    · exact .inl ((unhide HH).hlb lg h)
    · exact .inr (by omega)
  have mo1 : w1.rowIs mb 58 4 (mv da dwd did vlog) := hfr.row (unhide HH).mo (by simpa using (unhide HH).k6)
  have x3 := mo1.cell (i := 3) (by omega)
  have y3 := mo1.frozen 3
  have nl : lg ≠ mb := by
    rcases hlg' with h | h
    · rw [h]; exact Ne.symm (unhide HH).k6
    · omega
  have mo2 : (w1.setCell ⟨mb, 3, none⟩ (.slice (some ⟨lg, 0, none⟩) (n + 1) lc)).rowIs mb 58 4 (mv da dwd did (.slice (some ⟨lg, 0, none⟩) (n + 1) lc)) := (mo1.set 3 _).congr (by
    intro i hi
    match i, hi with
    | 0, _ => rfl
    | 1, _ => rfl
    | 2, _ => rfl
    | 3, _ => rfl
    | i + 4, h => exact absurd h (by simp))
  have own2 : (w1.setCell ⟨mb, 3, none⟩ (.slice (some ⟨lg, 0, none⟩) (n + 1) lc)).ownsRow 0 26 1 (.slice (some ⟨lg, 0, none⟩) (n + 1) lc) (n + 1) (xs ++ [.float .f64 t]) := ownsRow_setCell_other hown' (by intro e; exact nl (by injection e)) _
  have fr2 : Fr [mb, lb] w (w1.setCell ⟨mb, 3, none⟩ (.slice (some ⟨lg, 0, none⟩) (n + 1) lc)) := (hfr.mono (T := [mb, lb]) (fun k _ hk => by simp at hk; simp [hk])).setCell (.inl (by simp)) _
  have nin : ∀ k t' N f, k ≠ lb → w.rowIs k t' N f → t' ≠ 58 → k ∉ [mb, lb] := fun k t' N f h1 h2 h3 => by
    simp only [List.mem_cons, List.not_mem_nil, or_false, not_or]
    exact ⟨row_ne h2 (unhide HH).mo h3, h1⟩
  have a2 := (unhide HH).ma.fr fr2 (nin _ _ _ _ (unhide HH).k1 (unhide HH).ma.head (by decide)) (nin _ _ _ _ (unhide HH).l1 (unhide HH).ma.data (by decide))
  have w2' := (unhide HH).mw.fr fr2 (nin _ _ _ _ (unhide HH).k2 (unhide HH).mw.head (by decide)) (nin _ _ _ _ (unhide HH).l2 (unhide HH).mw.data (by decide))
  have i2 := (unhide HH).mi.fr fr2 (nin _ _ _ _ (unhide HH).k3 (unhide HH).mi.head (by decide)) (nin _ _ _ _ (unhide HH).l3 (unhide HH).mi.data (by decide))
  have f2 := (unhide HH).mf.fr fr2 (nin _ _ _ _ (unhide HH).k4 (unhide HH).mf.head (by decide)) (nin _ _ _ _ (unhide HH).l4 (unhide HH).mf.data (by decide))
  have o2 := (unhide HH).mn.fr fr2 (nin _ _ _ _ (unhide HH).k5 (unhide HH).mn.head (by decide)) (nin _ _ _ _ (unhide HH).l5 (unhide HH).mn.data (by decide))
  have Hown2 := hide own2
  have Hmo2 := hide mo2
  have Hfr2 := hide fr2
  have Ha2 := hide a2
  have Hw2 := hide w2'
  have Hi2 := hide i2
  have Hf2 := hide f2
  have Ho2 := hide o2
  clear own2 mo2 fr2 a2 w2' i2 f2 o2 nin mo1 hfr hgrow hown' hown Hal c3
  have hs2 : (w1.setCell ⟨mb, 3, none⟩ (.slice (some ⟨lg, 0, none⟩) (n + 1) lc)).heap.size = w1.heap.size := by simp
  have hsz : w.heap.size ≤ w1.heap.size := by have h := (unhide Hfr2).size; rw [hs2] at h; exact h
  have Hrows := hide (rows22 (w1.setCell ⟨mb, 3, none⟩ (.slice (some ⟨lg, 0, none⟩) (n + 1) lc)) w1.heap.size t 0 0 t hs2)
  have hft := fin_rep (unhide HH).rt.1
  have hf0 := fin_rep rep0
  go_wp2_with fail
  refine (fromRows_any _ (w1.heap.size + 1 + 1) 2 2 (fun i => w1.heap.size + i) (f22 t 0 0 t) ⟨.inr rfl, .inr rfl⟩ (unhide Hrows) (by
    intro i hi j hj
    match i, hi, j, hj with
    | 0, _, 0, _ => exact hft
    | 0, _, 1, _ => exact hf0
    | 1, _, 0, _ => exact hf0
    | 1, _, 1, _ => exact hft)).mono ?_
  rintro e w3 ⟨rfl, md, hfr3, hsz3⟩
  simp only [size_al, hs2] at md hsz3
  have fr3 : Fr [] (w1.setCell ⟨mb, 3, none⟩ (.slice (some ⟨lg, 0, none⟩) (n + 1) lc)) w3 := ((((Fr.refl [] _).alloc _).alloc _).alloc _).trans hfr3
  have Hmo3 := hide (fr3.row (unhide Hmo2) (by simp))
  have Hown3 := hide (ownsRow_fr (unhide Hown2) fr3 (by simp))
  have Ha3 := hide ((unhide Ha2).fr fr3 (by simp) (by simp))
  have Hw3 := hide ((unhide Hw2).fr fr3 (by simp) (by simp))
  have Hi3 := hide ((unhide Hi2).fr fr3 (by simp) (by simp))
  have Hf3 := hide ((unhide Hf2).fr fr3 (by simp) (by simp))
  have Ho3 := hide ((unhide Ho2).fr fr3 (by simp) (by simp))
  have Hfr3 := hide ((unhide Hfr2).trans (fr3.mono (T := [mb, lb]) (by simp)))
  have nD : bf ≠ w1.heap.size + 1 + 1 + 1 := by have h := (unhide Hf2).data.lt; rw [hs2] at h; omega
  have Hmd := hide md
  have rD : ∀ i, i < 4 → Rep (flat 2 (f22 t 0 0 t) i) (dg2 zt zt i) ∧ Bd (dg2 zt zt i) T := fun i hi => by
    match i, hi with
    | 0, _ => exact (unhide HH).rt
    | 1, _ => exact ⟨rep0, Bd.zero _⟩
    | 2, _ => exact ⟨rep0, Bd.zero _⟩
    | 3, _ => exact (unhide HH).rt
  have HrD := hide rD
  have hn35 := neq_nil35
  have u0 : w3.cell? ⟨mb, 0, none⟩ = some (.pointer (some ⟨da, 0, none⟩)) := (unhide Hmo3).cell (i := 0) (by omega)
  have Hl := hide hsz3
  clear md hfr3 hsz3 fr3 rD Hown2 Hmo2 Hfr2 Ha2 Hw2 Hi2 Hf2 Ho2 x3 y3 Hrows hft hf0
  go_wp2_with fail
  refine (multsym_any _ df bf da ba (w1.heap.size + 1 + 1 + 1 + 1) (w1.heap.size + 1 + 1 + 1) gf fa _ za (dg2 zt zt) A T (unhide Hf3) (unhide Ha3) (unhide Hmd) (unhide HH).n1 nD (unhide HH).ra (unhide HrD) (unhide HH).hA).mono ?_
  rintro e w4 ⟨rfl, hfr4, hsz4, gF, mF, R0, R1, R2, R3⟩
  have tf : ∀ k t' N f, w3.rowIs k t' N f → t' ≠ 26 → k ∉ [bf] := fun k t' N f h2 h3 => by simpa using row_ne h2 (unhide Hf3).data h3
  have nlf : lg ≠ bf := by
    have h := (unhide HH).mf.data.lt
    rcases hlg' with h2 | h2
    · rw [h2]; exact Ne.symm (unhide HH).l4
    · omega
  have nlo : lg ≠ bo := by
    have h := (unhide HH).mn.data.lt
    rcases hlg' with h2 | h2
    · rw [h2]; exact Ne.symm (unhide HH).l5
    · omega
  have mo4 := hfr4.row (unhide Hmo3) (tf _ _ _ _ (unhide Hmo3) (by decide))
  have Hown4 := hide (ownsRow_fr (unhide Hown3) hfr4 (by intro g hg; simp [Value.ownBlock] at hg; subst hg; simpa using nlf))
  have Hw4 := hide ((unhide Hw3).fr hfr4 (tf _ _ _ _ (unhide Hw3).head (by decide)) (by simpa using Ne.symm (unhide HH).n2))
  have Hi4 := hide ((unhide Hi3).fr hfr4 (tf _ _ _ _ (unhide Hi3).head (by decide)) (by simpa using Ne.symm (unhide HH).n3))
  have Ho4 := hide ((unhide Ho3).fr hfr4 (tf _ _ _ _ (unhide Ho3).head (by decide)) (by simpa using Ne.symm (unhide HH).n4))
  have Hfr4 := hide (((unhide Hfr3).mono (T := [mb, lb, bf, bo]) (fun k _ hk => by simp only [List.mem_cons, List.not_mem_nil, or_false] at hk; rcases hk with h | h <;> simp [h])).trans (hfr4.mono (T := [mb, lb, bf, bo]) (fun k _ hk => by simp only [List.mem_cons, List.not_mem_nil, or_false] at hk; simp [hk])))
  have HmF := hide mF
  have HRF := hide (And.intro R0 (And.intro R1 (And.intro R2 R3)))
  have Hmo4 := hide mo4
  have u1 : w4.cell? ⟨mb, 1, none⟩ = some (.pointer (some ⟨dwd, 0, none⟩)) := mo4.cell (i := 1) (by omega)
  have u2 : w4.cell? ⟨mb, 2, none⟩ = some (.pointer (some ⟨did, 0, none⟩)) := mo4.cell (i := 2) (by omega)
  have nmb : mb ∉ [bo] := by simpa using row_ne mo4 (unhide Ho4).data (by decide)
  clear mo4 mF R0 R1 R2 R3 tf hfr4 hsz4 u0
  go_wp2
  go_region_held3 (fun W => W.cell? ⟨mb, 1, none⟩ = some (.pointer (some ⟨dwd, 0, none⟩)) ∧ W.cell? ⟨mb, 2, none⟩ = some (.pointer (some ⟨did, 0, none⟩))) (go_keep) (first | (go_at_call 37; refine (multsym_any _ dw bo dwd bw did bi gw fw fi zw (dg2 1 1) W 1 (by exact ⟨(unhide Ho4).head, (unhide Ho4).data⟩) (by exact ⟨(unhide Hw4).head, (unhide Hw4).data⟩) (by exact ⟨(unhide Hi4).head, (unhide Hi4).data⟩) (unhide HH).n5 (unhide HH).n6 (unhide HH).rw (unhide HH).ri (unhide HH).hW).mono ?_; rintro e w5 ⟨rfl, hfr5, hsz5, gW, mW, R0, R1, R2, R3⟩; have mo5 := Fr.row (w := w4.drew) hfr5 (unhide Hmo4) nmb; have z1 : w5.cell? ⟨mb, 1, none⟩ = some (.pointer (some ⟨dwd, 0, none⟩)) := mo5.cell (i := 1) (by omega); have z2 : w5.cell? ⟨mb, 2, none⟩ = some (.pointer (some ⟨did, 0, none⟩)) := mo5.cell (i := 2) (by omega)))
  have Hmo5 := hide mo5
  have Hown5 := hide (ownsRow_fr (w := w4.drew) (unhide Hown4) hfr5 (by intro g hg; simp [Value.ownBlock] at hg; subst hg; simpa using nlo))
  have HmF5 := hide (Mat.fr (w := w4.drew) ⟨(unhide HmF).head, (unhide HmF).data⟩ hfr5 (by simpa using row_ne (unhide HmF).head (unhide Ho4).data (by decide)) (by simpa using (unhide HH).n4))
  have Hfr5 := hide ((unhide Hfr4).drew.trans (hfr5.mono (T := [mb, lb, bf, bo]) (fun k _ hk => by simp only [List.mem_cons, List.not_mem_nil, or_false] at hk; simp [hk])))
  have HmW := hide mW
  have HRW := hide (And.intro R0 (And.intro R1 (And.intro R2 R3)))
  clear mo5 mW R0 R1 R2 R3 hfr5 hsz5 z1 z2 u1 u2
  go_wp2
  go_end0
  exact ⟨rfl, unhide Hfr5, ⟨_, unhide Hmo5, unhide Hown5, by intro g hg; simp [Value.ownBlock] at hg; subst hg; exact hlg'⟩, ⟨gF, unhide HmF5, unhide HRF⟩, gW, unhide HmW, unhide HRW⟩
end Go.Proofs.YbulkaotqFmt.Wk
