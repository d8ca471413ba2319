/-
  THE WALK OF 'zzs2004abuild' (function 9).
-/
import Derived.Test.YbulkaomcReplayWalk
namespace Go.Proofs.Ybulkaomc
open Go.RowKit Lamp

/-- The hosts and sends that the steps give. -/
def hostOf (hs : Nat → Int) (n : Nat) (i : Nat) : Int := hs i % (n : Int)
def sendOf (ss : Nat → Int) (rs : Nat → Bool) (i : Nat) : Int := if rs i = true ∧ 0 < i then ss i % (i : Int) else -1
/-- What the walk is told of the slice of steps that came in. -/
def IsSteps (w : World) (a : Option Addr) (len : Nat) (hs ss : Nat → Int) (rs : Nat → Bool) : Prop :=
  ∀ i, i < len → ∃ b off, a = some ⟨b, off, none⟩ ∧ b < w.heap.size ∧ w.cell? ⟨b, off + i * 3, none⟩ = some (.int .u8 (hs i)) ∧ w.cell? ⟨b, off + i * 3 + 1, none⟩ = some (.int .u8 (ss i)) ∧ w.cell? ⟨b, off + i * 3 + 2, none⟩ = some (.bool (rs i)) ∧
    0 ≤ hs i ∧ hs i ≤ 255 ∧ 0 ≤ ss i ∧ ss i ≤ 255

theorem info9 : (Yba.prog.info? 9).map (fun i => (i.zero, i.size, i.bytes)) = some (some (.string ByteArray.empty), 1, 16) := by kernel_rfl
theorem info39 : (Yba.prog.info? 39).map (fun i => (i.zero, i.size, i.bytes)) = some (some (.agg #[.int .i64 0, .slice none 0 0, .int .i64 0, .int .i64 0]), 4, 48) := by kernel_rfl

theorem make39 (len : Nat) (h : len ≤ 1024) (H S : Nat → Int) : ∃ M : Array Value, (∀ w, (Instr.makeSlice 32 (.int .i64 (len : Int)) (.int .i64 (len : Int))).run Yba.prog w = .ok (.slice (some ⟨w.heap.size, 0, none⟩) len len) (w.alloc (.cells M 39))) ∧
    M.size = len * 4 ∧ ∀ c, c < len * 4 → M[c]? = some (evf H S 0 c) := by
  obtain ⟨i, hi, hzz⟩ := Option.map_eq_some_iff.1 info39
  simp only [Prod.mk.injEq] at hzz
  obtain ⟨hz, hs, hb⟩ := hzz
  refine ⟨madeCells #[.int .i64 0, .slice none 0 0, .int .i64 0, .int .i64 0] (len * 4), fun w => ?_, size_madeCells _ _, fun c hc => ?_⟩
  · have hr := run_make (P := Yba.prog) w 32 39 i _ Yba.underlying32 hi hz .i64 .i64 len len (by omega) (Int.le_refl _) (by rw [hb]; omega) (by omega)
    simp only [Int.toNat_natCast, hs] at hr
    exact hr
  · have h4 : c % 4 = 0 ∨ c % 4 = 1 ∨ c % 4 = 2 ∨ c % 4 = 3 := by omega
    rcases h4 with h4 | h4 | h4 | h4 <;> simp [madeCells, hc, evf, h4]

theorem evf_step (H S : Nat → Int) (k c : Nat) (x y : Int) (hx : H k = x) (hy : S k = y) :
    (if c = k * 4 + 3 then Value.int .i64 0 else if c = k * 4 + 2 then .int .i64 y else if c = k * 4 + 1 then .slice none 0 0 else if c = k * 4 then .int .i64 x else evf H S k c) = evf H S (k + 1) c := by
  by_cases e3 : c = k * 4 + 3
  · rw [if_pos e3, e3, evf_3]
  rw [if_neg e3]
  by_cases e2 : c = k * 4 + 2
  · rw [if_pos e2, e2, evf_2 _ _ _ _ (by omega), hy]
  rw [if_neg e2]
  by_cases e1 : c = k * 4 + 1
  · rw [if_pos e1, e1, evf_1]
  rw [if_neg e1]
  by_cases e0 : c = k * 4
  · rw [if_pos e0, e0, evf_0 _ _ _ _ (by omega), hx]
  rw [if_neg e0]
  have hd : c / 4 < k ↔ c / 4 < k + 1 := by omega
  unfold evf
  simp only [hd]

/-- What one round does to the row of events. -/
theorem ev_step {w wr : World} {g k len : Nat} {H S : Nat → Int} {x y : Int} (o : Obj) (r1 : wr.rowIs g 39 (len * 4) (evf H S k)) (hbel : Below w.heap.size w wr) (hg : w.heap.size ≤ g) (hx : H k = x) (hy : S k = y) :
    (((((wr.setCell ⟨g, k * 4, none⟩ (.int .i64 x)).setCell ⟨g, k * 4 + 1, none⟩ (.slice none 0 0)).setCell ⟨g, k * 4 + 2, none⟩ (.int .i64 y)).setCell ⟨g, k * 4 + 3, none⟩ (.int .i64 0)).alloc o).rowIs g 39 (len * 4) (evf H S (k + 1)) ∧
    Below w.heap.size w (((((wr.setCell ⟨g, k * 4, none⟩ (.int .i64 x)).setCell ⟨g, k * 4 + 1, none⟩ (.slice none 0 0)).setCell ⟨g, k * 4 + 2, none⟩ (.int .i64 y)).setCell ⟨g, k * 4 + 3, none⟩ (.int .i64 0)).alloc o) := by
  refine ⟨(((((r1.set (k * 4) (.int .i64 x)).set (k * 4 + 1) (.slice none 0 0)).set (k * 4 + 2) (.int .i64 y)).set (k * 4 + 3) (.int .i64 0)).alloc o).congr ?_, ?_⟩
  · intro c _
    exact evf_step H S k c x y hx hy
  · exact ((((hbel.setCell hg _).setCell hg _).setCell hg _).setCell hg _).alloc (by have := hbel.size; simpa using this) o

theorem hist_mk {wr : World} {g k n h : Nat} {H S : Nat → Int} (r1 : wr.rowIs g 39 (k * 4) (evf H S k)) :
    Hist (wr.alloc (.cells #[.slice (some ⟨h, 0, none⟩) n n, .slice (some ⟨g, 0, none⟩) k k] 34)) wr.heap.size h g n k H S :=
  ⟨by simp, by simp, r1.alloc _, by simp⟩

set_option maxRecDepth 100000 in
set_option maxHeartbeats 1000000 in
theorem build_any (w : World) (nh : Int) (a : Option Addr) (len cap n : Nat) (hs ss : Nat → Int) (rs : Nat → Bool) (h0 : 0 ≤ nh) (h1 : nh ≤ 255) (hn : 1 + nh % 4 = (n : Int)) (hl : len ≤ 1024) (hst : IsSteps w a len hs ss rs) :
    Calls Yba.prog 9 #[.int .u8 nh, .slice a len cap] w fun e w' => ∃ hb ho eo, e = .returned (.pointer (some ⟨hb, 0, none⟩)) ∧ Below w.heap.size w w' ∧ Hist w' hb ho eo n len (hostOf hs n) (sendOf ss rs) := by
  have hn1 : 1 ≤ n := by omega
  have hn4 : n ≤ 4 := by omega
  have mk31 := run_make_row' (P := Yba.prog) 31 9 (.string ByteArray.empty) 16 Yba.underlying31 info9 rfl .i64 .i64 n (by omega) (by omega)
  obtain ⟨M, mk32, hM, hMc⟩ := make39 len hl (hostOf hs n) (sendOf ss rs)
  have HMc := hide' hMc
  have Hst := hide' hst
  clear hMc hst
  go_enter Yba.func9, Yba.ntmps9
  go_wp2
  go_loopw [8] (fun i wr => ∃ k : Nat, k ≤ n ∧ i = .int .i64 k ∧ (∃ f, wr.rowIs w.heap.size 9 n f) ∧ Below w.heap.size w wr) (fun i _ => n - (intOf i).toNat)
  case atStart => exact ⟨0, by omega, rfl, ⟨_, World.rowIs_made w (.string ByteArray.empty) n 9⟩, (Below.refl _ _).alloc (Nat.le_refl _) _⟩
  case round =>
    obtain ⟨k, hk, rfl, ⟨f, r1⟩, hbel⟩ := hrel
    have hz0 : w.heap.size < wr.heap.size := r1.lt
    by_cases hkn : (k : Int) < (n : Int)
    · have hc := r1.cell (i := k) (by omega)
      have hf := r1.frozen k
      have Hr1 := hide' r1
      have hk3 : (k : Int) + 1 ≤ 4 := by omega
      have hk3' : k + 1 ≤ 4 := by omega
      clear r1 mk31 mk32 hM
      go_wp2
      go_roundw
      case rel => exact ⟨k + 1, by omega, by go_num, ⟨_, (unhide' Hr1).set k _⟩, hbel.setCell (Nat.le_refl _) _⟩
      case measure => simp [intOf]; omega
    · clear r1 mk31
      go_wp2
      clear mk32
      rename World => wa
      have hza : w.heap.size ≤ wa.heap.size := hbel.size
      have Hbela := hide' hbel
      clear hbel hz0
      go_loopw [37] (fun i wr => ∃ k : Nat, k ≤ len ∧ i = .int .i64 k ∧ wr.rowIs wa.heap.size 39 (len * 4) (evf (hostOf hs n) (sendOf ss rs) k) ∧ Below w.heap.size w wr) (fun i _ => len - (intOf i).toNat)
      case atStart => exact ⟨0, by omega, rfl, ⟨M, heap_alloc_new _ _, hM, unhide' HMc⟩, (unhide' Hbela).alloc hza _⟩
      case round =>
        obtain ⟨k, hk, rfl, r1, hbel⟩ := hrel
        have hz0 : wa.heap.size < wr.heap.size := r1.lt
        by_cases hkl : (k : Int) < (len : Int)
        · obtain ⟨b, off, rfl, hb, c0, c1, c2, hs0, hs1, ss0, ss1⟩ := (unhide' Hst) k (by omega)
          have hbr : b < wr.heap.size := by have := hbel.size; omega
          rw [← hbel.cell (p := ⟨b, off + k * 3, none⟩) hb] at c0
          rw [← hbel.cell (p := ⟨b, off + k * 3 + 1, none⟩) hb] at c1
          rw [← hbel.cell (p := ⟨b, off + k * 3 + 2, none⟩) hb] at c2
          have d0 := r1.cell (i := k * 4) (by omega)
          have d1 := r1.cell (i := k * 4 + 1) (by omega)
          have d2 := r1.cell (i := k * 4 + 2) (by omega)
          have d3 := r1.cell (i := k * 4 + 3) (by omega)
          have f0 := r1.frozen (k * 4)
          have f1 := r1.frozen (k * 4 + 1)
          have f2 := r1.frozen (k * 4 + 2)
          have f3 := r1.frozen (k * 4 + 3)
          have hni : (1 : Int) ≤ (n : Int) := by omega
          have Hr1 := hide' r1
          clear r1 hM
          cases hr : rs k with
          | false =>
            rw [hr] at c2
            have Hrs := hide' hr
            clear hr
            go_wp2
            go_roundw
            case rel =>
              have R := ev_step (H := hostOf hs n) (S := sendOf ss rs) (.cells #[.int .u8 (hs k), .int .u8 (ss k), .bool false] 63) (unhide' Hr1) hbel hza (x := hs k % (n : Int)) rfl (y := -1) (by unfold sendOf; rw [if_neg (by rw [unhide' Hrs]; simp)])
              exact ⟨k + 1, by omega, by go_num, R.1, R.2⟩
            case measure => simp [intOf]; omega
          | true =>
            rw [hr] at c2
            have Hrs := hide' hr
            clear hr
            by_cases hk0 : (0 : Int) < (k : Int)
            · go_wp2
              go_roundw
              case rel =>
                have R := ev_step (H := hostOf hs n) (S := sendOf ss rs) (.cells #[.int .u8 (hs k), .int .u8 (ss k), .bool true] 63) (unhide' Hr1) hbel hza (x := hs k % (n : Int)) rfl (y := ss k % (k : Int)) (by unfold sendOf; rw [if_pos ⟨unhide' Hrs, by omega⟩])
                exact ⟨k + 1, by omega, by go_num, R.1, R.2⟩
              case measure => simp [intOf]; omega
            · go_wp2
              go_roundw
              case rel =>
                have R := ev_step (H := hostOf hs n) (S := sendOf ss rs) (.cells #[.int .u8 (hs k), .int .u8 (ss k), .bool true] 63) (unhide' Hr1) hbel hza (x := hs k % (n : Int)) rfl (y := -1) (by unfold sendOf; rw [if_neg (by omega)])
                exact ⟨k + 1, by omega, by go_num, R.1, R.2⟩
              case measure => simp [intOf]; omega
        · have hkk : k = len := by omega
          subst hkk
          have Hr1 := hide' r1
          clear r1 hM
          go_wp2
          go_ret
          exact ⟨wr.heap.size, rfl, hbel.alloc hbel.size _, w.heap.size, wa.heap.size, hist_mk (unhide' Hr1)⟩
end Go.Proofs.Ybulkaomc
