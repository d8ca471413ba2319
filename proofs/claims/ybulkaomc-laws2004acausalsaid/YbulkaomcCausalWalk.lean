/-
  THE WALK OF 'LawS2004ACausal' (function 4).
-/
import Derived.Test.YbulkaomcBuildWalk
import Derived.Deep.QuietTactic
import Derived.BigQuiet
import Derived.WalkSmall
namespace Go.Proofs.Ybulkaomc
open Go.RowKit Lamp

theorem good_of (w : World) (a : Option Addr) (len n : Nat) (hs ss : Nat → Int) (rs : Nat → Bool) (hn1 : 1 ≤ n) (hn4 : n ≤ 4) (hl : len ≤ 1024) (_hst : IsSteps w a len hs ss rs) : Good n len (hostOf hs n) (sendOf ss rs) := by
  refine ⟨hn4, hl, fun i _ => ?_, fun i hi => ?_⟩
  · exact ⟨Int.emod_nonneg _ (by omega), Int.emod_lt_of_pos _ (by omega)⟩
  · unfold sendOf
    split
    · rename_i h
      have := Int.emod_nonneg (ss i) (b := (i : Int)) (by omega)
      have := Int.emod_lt_of_pos (ss i) (b := (i : Int)) (by omega)
      omega
    · omega

theorem assert29 (v : Value) (w : World) : (Instr.typeAssert (.iface 29 v) 26 29 true).run Yba.prog w = .ok (.tuple #[v, .bool true]) w := by kernel_rfl

theorem rowIs_drewN {w : World} {b : Nat} {t : TypeId} {n : Nat} {f : Nat → Value} (h : w.rowIs b t n f) (q : Nat) : (w.drewN q).rowIs b t n f := h

/-- What the law's loops know of the replay's answer. -/
structure Tells (len : Nat) (H S L : Nat → Int) : Prop where
  bd : ∀ i, i < len → 1 ≤ L i ∧ L i ≤ (i : Int) + 1
  sd : ∀ i, i < len → -1 ≤ S i ∧ S i < (i : Int)
  send : ∀ i, i < len → 0 ≤ S i → L (S i).toNat < L i
  host : ∀ i, i < len → ∀ j, j < i → H j = H i → L j < L i
  eq : ∀ i, i < len → L i = pick (back H L i (H i)) (L (S i).toNat) (S i) + 1
theorem tells_of (n len : Nat) (H S : Nat → Int) (g : Good n len H S) : Tells len H S (lam H S) :=
  have hs := fun i hi => (g.send i hi).2
  ⟨fun i hi => lam_bounds H S len hs i hi, g.send, fun i hi h0 => lam_send H S i (hs i hi) h0, fun i hi j hj e => lam_host H S len hs i j hi hj e, fun i hi => lam_eq H S i (hs i hi)⟩

set_option maxRecDepth 100000 in
set_option maxHeartbeats 1000000 in
theorem causal_walk (w : World) (nh : Int) (a : Option Addr) (len cap : Nat) (hs ss : Nat → Int) (rs : Nat → Bool) (h0 : 0 ≤ nh) (h1 : nh ≤ 255) (hst : len ≤ 1024 → IsSteps w a len hs ss rs) :
    Calls Yba.prog 4 #[.int .u8 nh, .slice a len cap] w fun e w' => e = .returned (.bool true) ∧ Below w.heap.size w w' := by
  by_cases hl : (1024 : Int) < (len : Int)
  · clear hst
    go_enter Yba.func4, Yba.ntmps4
    go_wp2
    go_ret
    exact ⟨rfl, Below.refl _ _⟩
  · obtain ⟨n, hn⟩ := Int.eq_ofNat_of_zero_le (a := 1 + nh % 4) (by omega)
    have hst' := hst (by omega)
    have hgood := good_of w a len n hs ss rs (by omega) (by omega) (by omega) hst'
    have HB := hide' (fun ww (hww : IsSteps ww a len hs ss rs) => build_any ww nh a len cap n hs ss rs h0 h1 hn (by omega) hww)
    have Hst := hide' hst'
    have Hgood := hide' hgood
    have Hn := hide' hn
    clear hst hst' hgood hn
    go_enter Yba.func4, Yba.ntmps4
    go_wp2_with fail
    refine (unhide' HB _ (unhide' Hst)).mono ?_
    rintro e w1 ⟨hb, ho, eo, rfl, hbel1, hh⟩
    go_wp2_with fail
    refine (replay_any _ hb ho eo n len _ _ hh (unhide' Hgood)).mono ?_
    rintro e w2 ⟨lb, rfl, hbel2, rl, hlb⟩
    have hc1 : w2.cell? ⟨hb, 1, none⟩ = some (.slice (some ⟨eo, 0, none⟩) len len) := by rw [hbel2.cell (p := ⟨hb, 1, none⟩) hh.hlt]; exact hh.c1
    have rl2 := rl
    have re2 := hh.row.of_block (hbel2.block eo hh.row.lt)
    have hbel := hbel1.trans (hbel2.mono hbel1.size)
    have ht := tells_of n len _ _ (unhide' Hgood)
    generalize hostOf hs n = H at *
    generalize sendOf ss rs = S at *
    generalize lam H S = L at *
    have hta := assert29
    clear hh rl hbel1 hbel2 HB Hst Hgood
    have Hrl := hide' rl2
    have Hre := hide' re2
    have Ht := hide' ht
    have Hbel := hide' hbel
    clear rl2 re2 ht hbel
    go_wp2
    go_loopw [10] (fun i wr => ∃ k : Nat, k ≤ len ∧ i = .int .i64 k ∧ wr.rowIs lb 35 len (stf L len) ∧ wr.rowIs eo 39 (len * 4) (evf H S len) ∧ Below w.heap.size w wr) (fun i _ => len - (intOf i).toNat)
    case atStart => exact ⟨0, by omega, rfl, unhide' Hrl, unhide' Hre, unhide' Hbel⟩
    case round =>
      obtain ⟨k, hk, rfl, rl, re, hbel⟩ := hrel
      by_cases hkl : (k : Int) < (len : Int)
      · have hl0 : wr.cell? ⟨lb, k, none⟩ = some (.int .u64 (L k)) := by rw [rl.cell (by omega), stf, if_pos (by omega)]
        obtain ⟨b0, b1⟩ := (unhide' Ht).bd k (by omega)
        obtain ⟨s0, s1⟩ := (unhide' Ht).sd k (by omega)
        by_cases hs : 0 ≤ S k
        · obtain ⟨sn, esn⟩ := Int.eq_ofNat_of_zero_le hs
          have hsl := (unhide' Ht).send k (by omega) hs
          rw [esn, Int.toNat_natCast] at hsl
          have e2 : wr.cell? ⟨eo, k * 4 + 2, none⟩ = some (.int .i64 sn) := by rw [re.cell (by omega), evf_2 _ _ _ _ (by omega), esn]
          have hl1 : wr.cell? ⟨lb, sn, none⟩ = some (.int .u64 (L sn)) := by rw [rl.cell (by omega), stf, if_pos (by omega)]
          have hsn : (sn : Int) < (len : Int) := by omega
          have hd : decide (L k ≤ L sn) = false := by simp; omega
          have Hrl := hide' rl
          have Hre := hide' re
          clear rl re esn hs s0 s1
          have Hbel := hide' hbel
          clear hbel
          go_wp2
          go_quiet (fail)
          go_wp2
          go_loopw [11] (fun j wx => ∃ m : Nat, m ≤ k ∧ j = .int .i64 m ∧ wx.rowIs lb 35 len (stf L len) ∧ wx.rowIs eo 39 (len * 4) (evf H S len) ∧ Below w.heap.size w wx) (fun j _ => k - (intOf j).toNat)
          case atStart => exact ⟨0, by omega, rfl, rowIs_drewN (unhide' Hrl) _, rowIs_drewN (unhide' Hre) _, below_drewN (unhide' Hbel) _⟩
          case round =>
            obtain ⟨m, hm, rfl, rl, re, hbel⟩ := hrel
            by_cases hmk : (m : Int) < (k : Int)
            · have hlm : wr.cell? ⟨lb, m, none⟩ = some (.int .u64 (L m)) := by rw [rl.cell (by omega), stf, if_pos (by omega)]
              have hlk : wr.cell? ⟨lb, k, none⟩ = some (.int .u64 (L k)) := by rw [rl.cell (by omega), stf, if_pos (by omega)]
              have em : wr.cell? ⟨eo, m * 4, none⟩ = some (.int .i64 (H m)) := by rw [re.cell (by omega), evf_0 _ _ _ _ (by omega)]
              have ek : wr.cell? ⟨eo, k * 4, none⟩ = some (.int .i64 (H k)) := by rw [re.cell (by omega), evf_0 _ _ _ _ (by omega)]
              have hml : (m : Int) < (len : Int) := by omega
              have Hrl := hide' rl
              have Hre := hide' re
              have Hbel := hide' hbel
              have hho := (unhide' Ht).host k (by omega) m (by omega)
              clear rl re hbel
              by_cases hq : H m = H k
              · have hlt := hho hq
                have hd : decide (L k ≤ L m) = false := by simp; omega
                have hqb : (H m == H k) = true := by simp [hq]
                clear hho hq
                go_wp2
                go_quiet (fail)
                go_wp2
                go_roundw
                case rel => exact ⟨m + 1, by omega, by go_num, rowIs_drewN (unhide' Hrl) _, rowIs_drewN (unhide' Hre) _, below_drewN (unhide' Hbel) _⟩
                case measure => simp [intOf]; omega
              · have hqb : (H m == H k) = false := by simp [hq]
                clear hho hq
                go_wp2
                go_quiet (fail)
                go_wp2
                go_roundw
                case rel => exact ⟨m + 1, by omega, by go_num, rowIs_drewN (unhide' Hrl) _, rowIs_drewN (unhide' Hre) _, below_drewN (unhide' Hbel) _⟩
                case measure => simp [intOf]; omega
            · have Hrl := hide' rl
              have Hre := hide' re
              have Hbel := hide' hbel
              clear rl re hbel
              go_wp2
              go_roundw
              case rel => exact ⟨k + 1, by omega, by go_num, unhide' Hrl, unhide' Hre, unhide' Hbel⟩
              case measure => simp [intOf]; omega
        · have e2 : wr.cell? ⟨eo, k * 4 + 2, none⟩ = some (.int .i64 (S k)) := by rw [re.cell (by omega), evf_2 _ _ _ _ (by omega)]
          have hd : decide (0 ≤ S k) = false := by simp; omega
          have Hrl := hide' rl
          have Hre := hide' re
          have Hbel := hide' hbel
          clear rl re hbel s0 s1 hs
          go_wp2
          go_quiet (fail)
          go_wp2
          go_loopw [11] (fun j wx => ∃ m : Nat, m ≤ k ∧ j = .int .i64 m ∧ wx.rowIs lb 35 len (stf L len) ∧ wx.rowIs eo 39 (len * 4) (evf H S len) ∧ Below w.heap.size w wx) (fun j _ => k - (intOf j).toNat)
          case atStart => exact ⟨0, by omega, rfl, rowIs_drewN (unhide' Hrl) _, rowIs_drewN (unhide' Hre) _, below_drewN (unhide' Hbel) _⟩
          case round =>
            obtain ⟨m, hm, rfl, rl, re, hbel⟩ := hrel
            by_cases hmk : (m : Int) < (k : Int)
            · have hlm : wr.cell? ⟨lb, m, none⟩ = some (.int .u64 (L m)) := by rw [rl.cell (by omega), stf, if_pos (by omega)]
              have hlk : wr.cell? ⟨lb, k, none⟩ = some (.int .u64 (L k)) := by rw [rl.cell (by omega), stf, if_pos (by omega)]
              have em : wr.cell? ⟨eo, m * 4, none⟩ = some (.int .i64 (H m)) := by rw [re.cell (by omega), evf_0 _ _ _ _ (by omega)]
              have ek : wr.cell? ⟨eo, k * 4, none⟩ = some (.int .i64 (H k)) := by rw [re.cell (by omega), evf_0 _ _ _ _ (by omega)]
              have hml : (m : Int) < (len : Int) := by omega
              have Hrl := hide' rl
              have Hre := hide' re
              have Hbel := hide' hbel
              have hho := (unhide' Ht).host k (by omega) m (by omega)
              clear rl re hbel
              by_cases hq : H m = H k
              · have hlt := hho hq
                have hd : decide (L k ≤ L m) = false := by simp; omega
                have hqb : (H m == H k) = true := by simp [hq]
                clear hho hq
                go_wp2
                go_quiet (fail)
                go_wp2
                go_roundw
                case rel => exact ⟨m + 1, by omega, by go_num, rowIs_drewN (unhide' Hrl) _, rowIs_drewN (unhide' Hre) _, below_drewN (unhide' Hbel) _⟩
                case measure => simp [intOf]; omega
              · have hqb : (H m == H k) = false := by simp [hq]
                clear hho hq
                go_wp2
                go_quiet (fail)
                go_wp2
                go_roundw
                case rel => exact ⟨m + 1, by omega, by go_num, rowIs_drewN (unhide' Hrl) _, rowIs_drewN (unhide' Hre) _, below_drewN (unhide' Hbel) _⟩
                case measure => simp [intOf]; omega
            · have Hrl := hide' rl
              have Hre := hide' re
              have Hbel := hide' hbel
              clear rl re hbel
              go_wp2
              go_roundw
              case rel => exact ⟨k + 1, by omega, by go_num, unhide' Hrl, unhide' Hre, unhide' Hbel⟩
              case measure => simp [intOf]; omega
      · have Hbel := hide' hbel
        clear rl re hbel
        go_wp2
        go_ret
        exact ⟨rfl, unhide' Hbel⟩
end Go.Proofs.Ybulkaomc
