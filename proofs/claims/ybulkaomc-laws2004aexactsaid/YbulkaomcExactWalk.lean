/-
  THE WALK OF 'LawS2004AExact' (function 3).
-/
import Derived.Test.YbulkaomcCausalWalk
namespace Go.Proofs.Ybulkaomc
open Go.RowKit Lamp

theorem fin_neg {len k : Nat} {H S L : Nat → Int} (t : Tells len H S L) (hk : k < len) {y : Int} (hy : back H L k (H k) = y) (hs : ¬ 0 ≤ S k) : Hid (L k = y + 1) := by
  show L k = y + 1
  rw [t.eq k hk, hy]; unfold pick; rw [if_neg (by omega)]
theorem fin_hi {len k sn : Nat} {H S L : Nat → Int} (t : Tells len H S L) (hk : k < len) {y : Int} (hy : back H L k (H k) = y) (esn : S k = sn) (hc : y < L sn) : Hid (L k = L sn + 1) := by
  show L k = L sn + 1
  rw [t.eq k hk, hy, esn, Int.toNat_natCast]; unfold pick; rw [if_pos ⟨by omega, hc⟩]
theorem fin_lo {len k sn : Nat} {H S L : Nat → Int} (t : Tells len H S L) (hk : k < len) {y : Int} (hy : back H L k (H k) = y) (esn : S k = sn) (hc : ¬ y < L sn) : Hid (L k = y + 1) := by
  show L k = y + 1
  rw [t.eq k hk, hy, esn, Int.toNat_natCast]; unfold pick; rw [if_neg (fun h => hc h.2)]
theorem row_step {w : World} {g k len : Nat} {L : Nat → Int} {y : Int} (r : w.rowIs g 35 len (stf L k)) (hy : L k = y) : (w.setCell ⟨g, k, none⟩ (.int .u64 y)).rowIs g 35 len (stf L (k + 1)) := by
  refine (r.set k (.int .u64 y)).congr ?_
  intro i _
  show (if i = k then Value.int .u64 y else stf L k i) = stf L (k + 1) i
  unfold stf
  by_cases e : i = k
  · subst e; rw [if_pos rfl, if_pos (by omega), hy]
  · rw [if_neg e]
    by_cases e2 : i < k
    · rw [if_pos e2, if_pos (by omega)]
    · rw [if_neg e2, if_neg (by omega)]

set_option maxRecDepth 100000 in
set_option maxHeartbeats 2000000 in
theorem exact_walk (w : World) (nh : Int) (a : Option Addr) (len cap : Nat) (hs ss : Nat → Int) (rs : Nat → Bool) (h0 : 0 ≤ nh) (h1 : nh ≤ 255) (hst : len ≤ 1024 → IsSteps w a len hs ss rs) :
    Calls Yba.prog 3 #[.int .u8 nh, .slice a len cap] w fun e w' => e = .returned (.bool true) ∧ Below w.heap.size w w' := by
  by_cases hl : (1024 : Int) < (len : Int)
  · clear hst
    go_enter Yba.func3, Yba.ntmps3
    go_wp2
    go_ret
    exact ⟨rfl, Below.refl _ _⟩
  · obtain ⟨n, hn⟩ := Int.eq_ofNat_of_zero_le (a := 1 + nh % 4) (by omega)
    have hst' := hst (by omega)
    have hgood := good_of w a len n hs ss rs (by omega) (by omega) (by omega) hst'
    have HB := hide' (fun ww (hww : IsSteps ww a len hs ss rs) => build_any ww nh a len cap n hs ss rs h0 h1 hn (by omega) hww)
    have Hst := hide' hst'
    have Hgood := hide' hgood
    have Hn := hide' hn
    clear hst hst' hgood hn
    go_enter Yba.func3, Yba.ntmps3
    go_wp2_with fail
    refine (unhide' HB _ (unhide' Hst)).mono ?_
    rintro e w1 ⟨hb, ho, eo, rfl, hbel1, hh⟩
    go_wp2_with fail
    refine (replay_any _ hb ho eo n len _ _ hh (unhide' Hgood)).mono ?_
    rintro e w2 ⟨lb, rfl, hbel2, rl, hlb⟩
    have hc1 : w2.cell? ⟨hb, 1, none⟩ = some (.slice (some ⟨eo, 0, none⟩) len len) := by rw [hbel2.cell (p := ⟨hb, 1, none⟩) hh.hlt]; exact hh.c1
    have rl2 := rl
    have re2 := hh.row.of_block (hbel2.block eo hh.row.lt)
    have hbel := hbel1.trans (hbel2.mono hbel1.size)
    have ht := tells_of n len _ _ (unhide' Hgood)
    generalize hostOf hs n = H at *
    generalize sendOf ss rs = S at *
    generalize lam H S = L at *
    have hta := assert29
    have mk28 := run_make_row' (P := Yba.prog) 28 35 (.int .u64 0) 8 Yba.underlying28 info35 rfl .i64 .i64 len (by omega) (by omega)
    clear hh rl hbel1 hbel2 HB Hst Hgood
    have hlbz : lb < w2.heap.size := rl2.lt
    have heoz : eo < w2.heap.size := re2.lt
    have hwz : w.heap.size ≤ w2.heap.size := hbel.size
    have Hrl := hide' rl2
    have Hre := hide' re2
    have Ht := hide' ht
    have Hbel := hide' hbel
    clear rl2 re2 ht hbel
    go_wp2
    go_loopw [11] (fun i wr => ∃ k : Nat, k ≤ len ∧ i = .int .i64 k ∧ wr.rowIs lb 35 len (stf L len) ∧ wr.rowIs eo 39 (len * 4) (evf H S len) ∧ wr.rowIs w2.heap.size 35 len (stf L k) ∧ Below w.heap.size w wr) (fun i _ => len - (intOf i).toNat)
    case atStart => exact ⟨0, by omega, rfl, (unhide' Hrl).alloc _, (unhide' Hre).alloc _, (World.rowIs_made w2 (.int .u64 0) len 35).congr (fun i _ => by simp [stf]), (unhide' Hbel).alloc (unhide' Hbel).size _⟩
    case round =>
      obtain ⟨k, hk, rfl, rl, re, rw', hbel⟩ := hrel
      clear mk28
      by_cases hkl : (k : Int) < (len : Int)
      · have Hrl := hide' rl
        have Hre := hide' re
        have Hrw := hide' rw'
        have Hbel := hide' hbel
        clear rl re rw' hbel
        go_wp2
        go_loopw [12, 13] (fun v j wx => ∃ m : Nat, m ≤ k ∧ j = .int .i64 ((m : Int) - 1) ∧ v = .int .u64 0 ∧ back H L k (H k) = back H L m (H k) ∧ wx.rowIs lb 35 len (stf L len) ∧ wx.rowIs eo 39 (len * 4) (evf H S len) ∧ wx.rowIs w2.heap.size 35 len (stf L k) ∧ Below w.heap.size w wx) (fun _ j _ => (intOf j + 1).toNat)
        case atStart => exact ⟨k, Nat.le_refl _, rfl, rfl, rfl, unhide' Hrl, unhide' Hre, unhide' Hrw, unhide' Hbel⟩
        case round =>
          obtain ⟨m, hm, rfl, rfl, hbk, rl, re, rw', hbel⟩ := hrel
          obtain ⟨s0, s1⟩ := (unhide' Ht).sd k (by omega)
          have hz2 : w2.heap.size < wr.heap.size := rw'.lt
          have hkz : wr.cell? ⟨w2.heap.size, k, none⟩ = some (.int .u64 0) := by rw [rw'.cell (by omega), stf, if_neg (by omega)]
          have hkf : wr.frozen? ⟨w2.heap.size, k, none⟩ = false := rw'.frozen k
          cases m with
          | zero =>
            have Hy : Hid (back H L k (H k) = 0) := hide' hbk
            clear hbk
            by_cases hs : 0 ≤ S k
            · obtain ⟨sn, esn⟩ := Int.eq_ofNat_of_zero_le hs
              have e2 : wr.cell? ⟨eo, k * 4 + 2, none⟩ = some (.int .i64 sn) := by rw [re.cell (by omega), evf_2 _ _ _ _ (by omega), esn]
              have hsn : (sn : Int) < (k : Int) := by omega
              have hsn' : (sn : Int) < (len : Int) := by omega
              have hx : wr.cell? ⟨w2.heap.size, sn, none⟩ = some (.int .u64 (L sn)) := by rw [rw'.cell (by omega), stf, if_pos (by omega)]
              have xb := (unhide' Ht).bd sn (by omega)
              obtain ⟨xb0, xb1⟩ := xb
              have Hesn := hide' esn
              have Hrl := hide' rl
              have Hre := hide' re
              have Hrw := hide' rw'
              have Hbel := hide' hbel
              clear rl re rw' hbel
              clear esn hs s0 s1
              by_cases hc : 0 < L sn
              · have hkx := unhide' (fin_hi (unhide' Ht) (by omega) (unhide' Hy) (unhide' Hesn) hc)
                have Hkx := hide' hkx
                clear hkx
                go_wp2
                go_roundw
                case rel => exact ⟨k + 1, by omega, by go_num, (unhide' Hrl).setOther (by simp; omega) _, (unhide' Hre).setOther (by simp; omega) _, row_step (unhide' Hrw) (unhide' Hkx), (unhide' Hbel).setCell (by simp; omega) _⟩
                case measure => simp [intOf]; omega
              · exfalso; omega
            · have e2 : wr.cell? ⟨eo, k * 4 + 2, none⟩ = some (.int .i64 (S k)) := by rw [re.cell (by omega), evf_2 _ _ _ _ (by omega)]
              have hkx := unhide' (fin_neg (unhide' Ht) (by omega) (unhide' Hy) hs)
              have Hkx := hide' hkx
              have Hrl := hide' rl
              have Hre := hide' re
              have Hrw := hide' rw'
              have Hbel := hide' hbel
              clear rl re rw' hbel
              clear hkx
              go_wp2
              go_roundw
              case rel => exact ⟨k + 1, by omega, by go_num, (unhide' Hrl).setOther (by simp; omega) _, (unhide' Hre).setOther (by simp; omega) _, row_step (unhide' Hrw) (unhide' Hkx), (unhide' Hbel).setCell (by simp; omega) _⟩
              case measure => simp [intOf]; omega
          | succ m =>
            have ej : ((m + 1 : Nat) : Int) - 1 = (m : Int) := by omega
            rw [ej]
            clear ej
            have hml : (m : Int) < (len : Int) := by omega
            have em : wr.cell? ⟨eo, m * 4, none⟩ = some (.int .i64 (H m)) := by rw [re.cell (by omega), evf_0 _ _ _ _ (by omega)]
            have ek : wr.cell? ⟨eo, k * 4, none⟩ = some (.int .i64 (H k)) := by rw [re.cell (by omega), evf_0 _ _ _ _ (by omega)]
            have hlm : wr.cell? ⟨w2.heap.size, m, none⟩ = some (.int .u64 (L m)) := by rw [rw'.cell (by omega), stf, if_pos (by omega)]
            obtain ⟨lm0, lm1⟩ := (unhide' Ht).bd m (by omega)
            by_cases hq : H m = H k
            · have Hy : Hid (back H L k (H k) = L m) := hide' (by rw [hbk, back, if_pos hq])
              have hqb : (H m == H k) = true := by simp [hq]
              clear hbk hq
              by_cases hs : 0 ≤ S k
              · obtain ⟨sn, esn⟩ := Int.eq_ofNat_of_zero_le hs
                have e2 : wr.cell? ⟨eo, k * 4 + 2, none⟩ = some (.int .i64 sn) := by rw [re.cell (by omega), evf_2 _ _ _ _ (by omega), esn]
                have hsn : (sn : Int) < (k : Int) := by omega
                have hsn' : (sn : Int) < (len : Int) := by omega
                have hx : wr.cell? ⟨w2.heap.size, sn, none⟩ = some (.int .u64 (L sn)) := by rw [rw'.cell (by omega), stf, if_pos (by omega)]
                have xb := (unhide' Ht).bd sn (by omega)
                obtain ⟨xb0, xb1⟩ := xb
                have Hesn := hide' esn
                have Hrl := hide' rl
                have Hre := hide' re
                have Hrw := hide' rw'
                have Hbel := hide' hbel
                clear rl re rw' hbel
                clear esn hs s0 s1
                by_cases hc : L m < L sn
                · have hkx := unhide' (fin_hi (unhide' Ht) (by omega) (unhide' Hy) (unhide' Hesn) hc)
                  have Hkx := hide' hkx
                  clear hkx
                  go_wp2
                  go_quiet (fail)
                  go_wp2
                  go_roundw
                  case rel => exact ⟨k + 1, by omega, by go_num, (rowIs_drewN (unhide' Hrl) _).setOther (by simp; omega) _, (rowIs_drewN (unhide' Hre) _).setOther (by simp; omega) _, row_step (rowIs_drewN (unhide' Hrw) _) (unhide' Hkx), (below_drewN (unhide' Hbel) _).setCell (by simp; omega) _⟩
                  case measure => simp [intOf]; omega
                · have hkx := unhide' (fin_lo (unhide' Ht) (by omega) (unhide' Hy) (unhide' Hesn) hc)
                  have Hkx := hide' hkx
                  clear hkx
                  go_wp2
                  go_quiet (fail)
                  go_wp2
                  go_roundw
                  case rel => exact ⟨k + 1, by omega, by go_num, (rowIs_drewN (unhide' Hrl) _).setOther (by simp; omega) _, (rowIs_drewN (unhide' Hre) _).setOther (by simp; omega) _, row_step (rowIs_drewN (unhide' Hrw) _) (unhide' Hkx), (below_drewN (unhide' Hbel) _).setCell (by simp; omega) _⟩
                  case measure => simp [intOf]; omega
              · have e2 : wr.cell? ⟨eo, k * 4 + 2, none⟩ = some (.int .i64 (S k)) := by rw [re.cell (by omega), evf_2 _ _ _ _ (by omega)]
                have hkx := unhide' (fin_neg (unhide' Ht) (by omega) (unhide' Hy) hs)
                have Hkx := hide' hkx
                have Hrl := hide' rl
                have Hre := hide' re
                have Hrw := hide' rw'
                have Hbel := hide' hbel
                clear rl re rw' hbel
                clear hkx
                go_wp2
                go_quiet (fail)
                go_wp2
                go_roundw
                case rel => exact ⟨k + 1, by omega, by go_num, (rowIs_drewN (unhide' Hrl) _).setOther (by simp; omega) _, (rowIs_drewN (unhide' Hre) _).setOther (by simp; omega) _, row_step (rowIs_drewN (unhide' Hrw) _) (unhide' Hkx), (below_drewN (unhide' Hbel) _).setCell (by simp; omega) _⟩
                case measure => simp [intOf]; omega
            · have Hbk : Hid (back H L k (H k) = back H L m (H k)) := hide' (by rw [hbk, back, if_neg hq])
              have hqb : (H m == H k) = false := by simp [hq]
              have Hrl := hide' rl
              have Hre := hide' re
              have Hrw := hide' rw'
              have Hbel := hide' hbel
              clear rl re rw' hbel hbk hq
              go_wp2
              go_quiet (fail)
              go_wp2
              go_roundw
              case rel => exact ⟨m, by omega, by go_num, rfl, unhide' Hbk, rowIs_drewN (unhide' Hrl) _, rowIs_drewN (unhide' Hre) _, rowIs_drewN (unhide' Hrw) _, below_drewN (unhide' Hbel) _⟩
              case measure => simp [intOf]
      · have hkk : k = len := by omega
        subst hkk
        have Hrl := hide' rl
        have Hrw := hide' rw'
        have Hbel := hide' hbel
        clear rl re rw' hbel
        go_wp2
        go_loopw [14] (fun i wx => ∃ t : Nat, t ≤ k ∧ i = .int .i64 t ∧ wx.rowIs lb 35 k (stf L k) ∧ wx.rowIs w2.heap.size 35 k (stf L k) ∧ Below w.heap.size w wx) (fun i _ => k - (intOf i).toNat)
        case atStart => exact ⟨0, by omega, rfl, unhide' Hrl, unhide' Hrw, unhide' Hbel⟩
        case round =>
          obtain ⟨t, ht, rfl, rl, rw', hbel⟩ := hrel
          by_cases htk : (t : Int) < (k : Int)
          · have c1 : wr.cell? ⟨lb, t, none⟩ = some (.int .u64 (L t)) := by rw [rl.cell (by omega), stf, if_pos (by omega)]
            have c2 : wr.cell? ⟨w2.heap.size, t, none⟩ = some (.int .u64 (L t)) := by rw [rw'.cell (by omega), stf, if_pos (by omega)]
            have Hrl := hide' rl
            have Hrw := hide' rw'
            have Hbel := hide' hbel
            clear rl rw' hbel
            go_wp2
            go_quiet (fail)
            go_wp2
            go_roundw
            case rel => exact ⟨t + 1, by omega, by go_num, rowIs_drewN (unhide' Hrl) _, rowIs_drewN (unhide' Hrw) _, below_drewN (unhide' Hbel) _⟩
            case measure => simp [intOf]; omega
          · have Hbel := hide' hbel
            clear rl rw' hbel
            go_wp2
            go_ret
            exact ⟨rfl, unhide' Hbel⟩
end Go.Proofs.Ybulkaomc
