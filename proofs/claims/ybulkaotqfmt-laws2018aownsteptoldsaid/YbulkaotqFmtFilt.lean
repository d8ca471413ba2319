/-
  The filter's own small functions: 'nextFinite' (22), 'checkVector' (14), 'built' (17), 'Record' (6).
-/
import Derived.Test.YbulkaotqFmtSym
namespace Go.Proofs.YbulkaotqFmt.Wk
open Go.RowKit Fl

set_option maxHeartbeats 1000000 in
theorem nextFinite_any (w : World) (fb : Nat) (F : Nat → Value) (bo dp bp : Nat) (g gp : Nat → Nat) (hF : w.rowIs fb 47 25 F) (h14 : F 14 = .slice (some ⟨bo, 0, none⟩) 2 2) (h17 : F 17 = .pointer (some ⟨dp, 0, none⟩))
    (hx : w.rowIs bo 26 2 (fv g)) (fx : ∀ i, i < 2 → Fin1 (g i)) (mp : Mat w dp 2 2 bp gp) (fp : ∀ i, i < 4 → Fin1 (gp i)) :
    Calls Ybaf.prog 22 #[.pointer (some ⟨fb, 0, none⟩)] w fun e w' => e = .returned (.bool true) ∧ w = w' := by
  have c14 := hF.cell (i := 14) (by omega)
  have c17 := hF.cell (i := 17) (by omega)
  rw [h14] at c14
  rw [h17] at c17
  have Hx := hide hx
  have Hm := hide mp
  have Hfx := hide fx
  have Hfp := hide fp
  clear hF h14 h17 hx mp fx fp
  go_enter Ybaf.func22, Ybaf.ntmps22
  go_wp2_with fail
  refine (fnf_any _ bo 0 2 2 g (by omega) (fun j hj => by rw [Nat.zero_add]; exact (unhide Hx).cell (i := j) (by omega)) (unhide Hfx)).mono ?_
  rintro e w' ⟨rfl, rfl⟩
  go_wp2_with fail
  refine (finite_any _ dp bp gp (unhide Hm) (unhide Hfp)).mono ?_
  rintro e w' ⟨rfl, rfl⟩
  go_wp2
  go_ret
  exact ⟨rfl, rfl⟩

set_option maxHeartbeats 1000000 in
theorem checkVector_any (w : World) (nm : ByteArray) (b n c : Nat) (f : Nat → Nat) (hn : n ≤ 1000) (hv : ∀ i, i < n → w.cell? ⟨b, i, none⟩ = some (fv f i)) (hf : ∀ i, i < n → Fin1 (f i)) :
    Calls Ybaf.prog 14 #[.string nm, .slice (some ⟨b, 0, none⟩) n c, .int .i64 n] w fun e w' => e = .returned .nilIface ∧ w = w' := by
  have Hv := hide hv
  have Hf := hide hf
  clear hv hf
  go_enter Ybaf.func14, Ybaf.ntmps14
  go_wp2_with fail
  refine (fnf_any _ b 0 n c f (by omega) (fun j hj => by rw [Nat.zero_add]; exact (unhide Hv) j hj) (unhide Hf)).mono ?_
  rintro e w' ⟨rfl, rfl⟩
  go_wp2
  go_ret
  exact ⟨rfl, rfl⟩

set_option maxHeartbeats 1000000 in
theorem built_any (w : World) (fb : Nat) (F : Nat → Value) (bx n cx : Nat) (hF : w.rowIs fb 47 25 F) (h6 : F 6 = .slice (some ⟨bx, 0, none⟩) n cx) :
    Calls Ybaf.prog 17 #[.pointer (some ⟨fb, 0, none⟩)] w fun e w' => e = .returned .nilIface ∧ w = w' := by
  have c6 := hF.cell (i := 6) (by omega)
  rw [h6] at c6
  have hq := nil_eq
  clear hF h6
  go_enter Ybaf.func17, Ybaf.ntmps17
  go_wp2
  go_ret
  exact ⟨rfl, rfl⟩
end Go.Proofs.YbulkaotqFmt.Wk
