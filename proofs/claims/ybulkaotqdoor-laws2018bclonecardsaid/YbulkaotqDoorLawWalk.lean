/-
  THE WALK OF 'LawS2018BClone' (function 3).
-/
import Derived.Test.YbulkaotqDoorWalks2
namespace Go.Proofs.YbulkaotqDoor.Clone
open Go.RowKit

/-- What is known of a slice of floats that came in: nil, or cells at an address. -/
def IsFl (w : World) (a : Option Addr) (n c : Nat) : Prop := (a = none ∧ n = 0 ∧ c = 0) ∨ ∃ ad z, a = some ad ∧ (0 < n → ad.block < w.heap.size) ∧ At w ad n z

theorem copy_in (w : World) (a : Option Addr) (n c : Nat) (h : IsFl w a n c) :
    ∃ w2, (Builtin.copy_ #[22, 22] 3 #[.slice (some ⟨w.heap.size, 0, none⟩) n n, .slice a n c]).run Ybad.prog (w.alloc (.cells (madeCells #[.float .f64 0] n) 36)) = .ok (goInt n) w2 ∧ Below w.heap.size w w2 ∧ w2.heap.size = w.heap.size + 1 := by
  rcases h with ⟨rfl, rfl, rfl⟩ | ⟨ad, z, rfl, hb, hat⟩
  · exact ⟨_, run_copy_nil (P := Ybad.prog) _ 22 22 3 36 _ 0 0 Ybad.underlying22 (by kernel_rfl), (Below.refl _ _).alloc (Nat.le_refl _) _, by simp⟩
  · obtain ⟨w2, h1, _, h2, h3⟩ := copy_run w ad n c z hat hb
    exact ⟨w2, h1, h2, h3⟩

set_option maxRecDepth 100000 in
set_option maxHeartbeats 1000000 in
theorem law_nil (w : World) (a : Option Addr) (n c : Nat) (h : IsFl w a n c) (hn : n ≤ 1024) :
    Calls Ybad.prog 3 #[.slice a n c, .slice none 0 0] w fun e w' => e = .returned (.bool true) ∧ Below w.heap.size w w' := by
  obtain ⟨w2, hcp, hbel, hsz⟩ := copy_in w a n c h
  obtain ⟨zc, hzc, hzs⟩ := sim_zero
  have mk := run_make_row' (P := Ybad.prog) 22 36 (.float .f64 0) 8 Ybad.underlying22 info36 rfl .i64 .i64 n (by omega) (by omega)
  have hq := nil_eq
  have Hbel := hide' hbel
  have hw2 : w.heap.size ≤ w2.heap.size := by omega
  clear h hbel hsz
  go_enter Ybad.func3, Ybad.ntmps3
  go_wp2_with fail
  refine (copy_nil _).mono ?_
  rintro e w3 ⟨rfl, rfl⟩
  go_wp2_with fail
  refine (meas_nil _ _ ⟨w.heap.size, 0, none⟩ n n (by simp [hzs]) (by simp [hzs])).mono ?_
  rintro e w4 ⟨rfl, rfl⟩
  go_wp2
  refine wp_loop_rounds 1 ?_
  rw [rounds_succ]
  go_wp2
  refine wp_loop_rounds 1 ?_
  rw [rounds_succ]
  go_wp2
  refine wp_loop_rounds 1 ?_
  rw [rounds_succ]
  go_wp2
  go_ret
  exact ⟨rfl, (unhide' Hbel).alloc hw2 _⟩

/-- What stays through the three loops. -/
structure Inv (w wr : World) (sb zb : Nat) (ad : Addr) (m : Nat) (z : Nat → Nat) : Prop where
  cs : wr.cell? ⟨sb, 54, none⟩ = some (.slice (some ⟨zb, 0, none⟩) m m)
  rz : wr.rowIs zb 36 m (fl z)
  az : At wr ad m z
  bel : Below w.heap.size w wr
theorem Inv.drewN {w wr : World} {sb zb : Nat} {ad : Addr} {m : Nat} {z : Nat → Nat} (h : Inv w wr sb zb ad m z) (q : Nat) : Inv w (wr.drewN q) sb zb ad m z := ⟨h.cs, h.rz, h.az, below_drewN h.bel q⟩
theorem store_fl {w : World} {a : Addr} {u : Value} (hc : w.cell? a = some u) (hf : w.frozen? a = false) : ∀ v : Nat, (store a (.float .f64 v)).run Ybad.prog w = .ok () (w.setCell a (.float .f64 v)) := by
  intro v
  rw [run_store Ybad.prog w a (.float .f64 v) _ rfl, hc]
  simp [hf]
theorem add_block (ad : Addr) (i : Nat) : (ad.add i).block = ad.block := by unfold Addr.add; split <;> rfl
theorem Inv.set {w wr : World} {sb zb : Nat} {ad : Addr} {m : Nat} {z : Nat → Nat} (h : Inv w wr sb zb ad m z) (had : 0 < m → ad.block < w.heap.size) {g k : Nat} (hz : zb ≠ g) (hs : sb ≠ g) (hg : w.heap.size ≤ g) (v : Value) :
    Inv w (wr.setCell ⟨g, k, none⟩ v) sb zb ad m z := by
  refine ⟨?_, h.rz.setOther (by simpa using hz) _, fun i hi => ?_, h.bel.setCell (by simpa using hg) _⟩
  · rw [World.cell?_setCell_other _ _ _ _ (by intro e; exact hs (congrArg Addr.block e).symm)]; exact h.cs
  · have hne : (⟨g, k, none⟩ : Addr) ≠ ad.add i := by
      intro e
      have e2 := congrArg Addr.block e
      rw [add_block] at e2
      simp at e2
      have := had (by omega)
      omega
    rw [World.cell?_setCell_other _ _ _ _ hne]
    exact h.az i hi
theorem Inv.spot {w wr : World} {sb zb b off : Nat} {spot : Option Nat} {m k : Nat} {z : Nat → Nat} (h : Inv w wr sb zb ⟨b, off, spot⟩ m z) (hk : k < m) : spot = none := by
  have := h.az 0 (by omega)
  simp [Addr.add] at this
  simpa using World.cell?_spot this

set_option maxRecDepth 100000 in
set_option maxHeartbeats 2000000 in
theorem law_some (w : World) (a : Option Addr) (n c : Nat) (h : IsFl w a n c) (hn : n ≤ 1024) (ad : Addr) (m cap : Nat) (z : Nat → Nat) (hb : 0 < m → ad.block < w.heap.size) (hat : At w ad m z) (hm : m ≤ 1024) :
    Calls Ybad.prog 3 #[.slice a n c, .slice (some ad) m cap] w fun e w' => e = .returned (.bool true) ∧ Below w.heap.size w w' := by
  obtain ⟨w2, hcp, hbel, hsz⟩ := copy_in w a n c h
  obtain ⟨zc, hzc, hzs⟩ := sim_zero
  have mk := run_make_row' (P := Ybad.prog) 22 36 (.float .f64 0) 8 Ybad.underlying22 info36 rfl .i64 .i64 n (by omega) (by omega)
  have hq := nil_eq
  have hat2 := hat.below hb hbel
  have hw2 : w.heap.size < w2.heap.size := by omega
  have hb2 : 0 < m → ad.block < w2.heap.size := fun h => by have := hb h; omega
  have Hbel := hide' hbel
  have Hat2 := hide' hat2
  clear h hbel hsz hat hat2
  have hd1 : decide ((1024 : Int) < (n : Int)) = false := by simp; omega
  have hd2 : decide ((1024 : Int) < (m : Int)) = false := by simp; omega
  go_enter Ybad.func3, Ybad.ntmps3
  go_wp2_with fail
  refine (copy_some _ ad m cap z (unhide' Hat2) hb2 hm).mono ?_
  rintro e w3 ⟨rfl, hrow, hbel3, hsz3⟩
  have Hrow := hide' hrow
  have Hbel3 := hide' hbel3
  have hw3 : w2.heap.size < w3.heap.size := by omega
  clear hrow hbel3 hsz3
  go_wp2_with fail
  refine (meas_some _ _ ⟨w.heap.size, 0, none⟩ n n (by simp [hzs]) ⟨w2.heap.size, 0, none⟩ m m z (by simp [hzs]) (fun i hi => by rw [Go.WideShapes.add_plain]; simpa using ((unhide' Hrow).alloc _).cell hi) (fun _ => by simp; omega) hm).mono ?_
  rintro e w5 ⟨g, cg, f, rfl, rg, hmc, hf, hg, hbel5⟩
  simp only [World.size_alloc] at hg
  have inv : Inv w w5 w3.heap.size w2.heap.size ad m z := by
    refine ⟨?_, ?_, ?_, ?_⟩
    · rw [hbel5.cell (by simp)]; simp [hzs]
    · exact ((unhide' Hrow).alloc _).of_block (hbel5.block _ (by simp; omega))
    · exact (((unhide' Hat2).below hb2 (unhide' Hbel3)).below (fun h => by have := hb h; omega) ((Below.refl _ _).alloc (Nat.le_refl _) _)).below (fun h => by have := hb h; simp; omega) hbel5
    · exact (((unhide' Hbel).trans ((unhide' Hbel3).mono (by omega))).alloc (by omega) _).trans (hbel5.mono (by simp; omega))
  have Hinv := hide' inv
  have Hrg := hide' rg
  have Hf := hide' hf
  have Hb := hide' hb
  clear inv rg hf hbel5 mk hcp hzc hb hb2
  have h7 := bits7
  have h8 := from8
  obtain ⟨b, off, spot⟩ := ad
  go_wp2
  go_loopw [46] (fun i wr => ∃ k : Nat, k ≤ m ∧ i = .int .i64 k ∧ Inv w wr w3.heap.size w2.heap.size ⟨b, off, spot⟩ m z ∧ wr.rowIs g 36 cg f) (fun i _ => m - (intOf i).toNat)
  case atStart => exact ⟨0, by omega, rfl, unhide' Hinv, unhide' Hrg⟩
  case round =>
    obtain ⟨k, hk, rfl, inv, rg⟩ := hrel
    by_cases hkm : (k : Int) < (m : Int)
    · have hsp : spot = none := inv.spot (k := k) (by omega)
      subst hsp
      have c1 : wr.cell? ⟨b, off + k, none⟩ = some (.float .f64 (z k)) := by have := inv.az k (by omega); rwa [Go.WideShapes.add_plain] at this
      have c2 : wr.cell? ⟨g, k, none⟩ = some (.float .f64 (z k)) := by rw [rg.cell (by omega), (unhide' Hf) k (by omega)]; rfl
      have hkc : (k : Int) < (cg : Int) := by omega
      have Hinv := hide' inv
      have Hrg := hide' rg
      clear inv rg
      go_wp2
      go_quiet (fail)
      go_wp2
      go_roundw
      case rel => exact ⟨k + 1, by omega, by go_num, (unhide' Hinv).drewN _, unhide' Hrg⟩
      case measure => simp [intOf]; omega
    · have Hinv := hide' inv
      have Hrg := hide' rg
      clear inv rg
      go_wp2
      go_loopw [63] (fun i wx => ∃ t : Nat, t ≤ m ∧ i = .int .i64 t ∧ Inv w wx w3.heap.size w2.heap.size ⟨b, off, spot⟩ m z ∧ ∃ f', wx.rowIs g 36 cg f' ∧ ∀ j, t ≤ j → j < m → f' j = fl z j) (fun i _ => m - (intOf i).toNat)
      case atStart => exact ⟨0, by omega, rfl, unhide' Hinv, f, unhide' Hrg, fun j _ hj => (unhide' Hf) j hj⟩
      case round =>
        obtain ⟨t, ht, rfl, inv, f', rg, hf'⟩ := hrel
        by_cases htm : (t : Int) < (m : Int)
        · have c2 : wr.cell? ⟨g, t, none⟩ = some (.float .f64 (z t)) := by rw [rg.cell (by omega), hf' t (Nat.le_refl _) (by omega)]; rfl
          have cf : wr.frozen? ⟨g, t, none⟩ = false := rg.frozen t
          have htc : (t : Int) < (cg : Int) := by omega
          have hst := store_fl c2 cf
          have Hinv := hide' inv
          have Hrg := hide' rg
          have Hf' := hide' hf'
          clear inv rg hf'
          go_wp2
          go_roundw
          case rel => exact ⟨t + 1, by omega, by go_num, (unhide' Hinv).set (unhide' Hb) (by omega) (by omega) (by omega) _, _, (unhide' Hrg).set t _, fun j h1 h2 => by rw [if_neg (by omega)]; exact (unhide' Hf') j (by omega) h2⟩
          case measure => simp [intOf]; omega
        · have cs := inv.cs
          have Hinv := hide' inv
          clear inv rg hf'
          go_wp2
          go_loopw [90] (fun i wx => ∃ q : Nat, q ≤ m ∧ i = .int .i64 q ∧ Inv w wx w3.heap.size w2.heap.size ⟨b, off, spot⟩ m z) (fun i _ => m - (intOf i).toNat)
          case atStart => exact ⟨0, by omega, rfl, unhide' Hinv⟩
          case round =>
            obtain ⟨q, hq', rfl, inv⟩ := hrel
            clear cs
            by_cases hqm : (q : Int) < (m : Int)
            · have hsp : spot = none := inv.spot (k := q) (by omega)
              subst hsp
              have cs := inv.cs
              have c1 : wr.cell? ⟨b, off + q, none⟩ = some (.float .f64 (z q)) := by have := inv.az q (by omega); rwa [Go.WideShapes.add_plain] at this
              have c2 : wr.cell? ⟨w2.heap.size, q, none⟩ = some (.float .f64 (z q)) := by rw [inv.rz.cell (by omega)]; rfl
              have Hinv := hide' inv
              clear inv
              go_wp2
              go_quiet (fail)
              go_wp2
              go_roundw
              case rel => exact ⟨q + 1, by omega, by go_num, (unhide' Hinv).drewN _⟩
              case measure => simp [intOf]; omega
            · have Hinv := hide' inv
              clear inv
              go_wp2
              go_ret
              exact ⟨rfl, (unhide' Hinv).bel⟩

set_option maxRecDepth 100000 in
set_option maxHeartbeats 1000000 in
theorem law_walk (w : World) (a : Option Addr) (n c : Nat) (h : IsFl w a n c) (b : Option Addr) (m d : Nat) (h2 : IsFl w b m d) :
    Calls Ybad.prog 3 #[.slice a n c, .slice b m d] w fun e w' => e = .returned (.bool true) ∧ Below w.heap.size w w' := by
  by_cases hn : (1024 : Int) < (n : Int)
  · clear h h2
    go_enter Ybad.func3, Ybad.ntmps3
    go_wp2
    go_ret
    exact ⟨rfl, Below.refl _ _⟩
  by_cases hm : (1024 : Int) < (m : Int)
  · clear h h2
    go_enter Ybad.func3, Ybad.ntmps3
    go_wp2
    go_ret
    exact ⟨rfl, Below.refl _ _⟩
  rcases h2 with ⟨rfl, rfl, rfl⟩ | ⟨ad, z, rfl, hb, hat⟩
  · exact law_nil w a n c h (by omega)
  · exact law_some w a n c h (by omega) ad m d z hb hat (by omega)
end Go.Proofs.YbulkaotqDoor.Clone
