/- FnSame returns true, whatever the two registers are; it writes nothing that was there. No condition. -/
import Derived.Test.YtomladkeanieeaaSame
namespace Go.Proofs.Ytomladkeanieeaa
open Go.RowKit
set_option linter.unusedVariables false
set_option linter.unusedSimpArgs false
set_option maxHeartbeats 4000000 in
theorem same_walk (a b : Rg) (ha : a.ok) (hb : b.ok) (w : World) :
    Calls Try.prog 4 #[a.val, b.val] w fun e w' => e = .returned (.bool true) ∧ Below w.heap.size w w' := by
  have HA := Lib.hid ha
  have HB := Lib.hid hb
  have HE := Lib.hid (equalB_eq ha hb)
  have qe := eqReg_run a b
  have HBA := Lib.hid (blk_alloc (heap_alloc_new w (.cells #[.bool a.virt, .int .u8 a.kind, .int .u16 a.idx, .int .u16 a.spec] 24)) (.cells #[.bool b.virt, .int .u8 b.kind, .int .u16 b.idx, .int .u16 b.spec] 24))
  have HBB := Lib.hid (heap_alloc2_new w (.cells #[.bool a.virt, .int .u8 a.kind, .int .u16 a.idx, .int .u16 a.spec] 24) (.cells #[.bool b.virt, .int .u8 b.kind, .int .u16 b.idx, .int .u16 b.spec] 24))
  clear ha hb
  unfold Rg.val at *
  have C1 := Lib.hid (fun W => same_any a b HA.out HB.out W)
  have C2 := Lib.hid (fun W => specSame_any a b W)
  unfold sameOr at C1
  unfold specSame at C2
  rw [HE.out] at C1
  cases hd : decide (a = b) <;> cases hi : (isReg a && isReg b)
  all_goals
    rw [hd, hi] at C1 C2
    rw [hd] at qe
    clear hd hi
    simp only [Bool.and_true, Bool.and_false, Bool.true_and, Bool.false_and] at C1 C2
    go_enter Try.func4, Try.ntmps4
    go_wp2_with (first | (go_at_call 11; refine (C1.out _).mono ?_; rintro e w1 ⟨rfl, hb1⟩; have hB := (show Below w.heap.size w _ from below_after (by repeat (first | exact Below.refl _ _ | assumption | refine Below.drew ?_ | refine below_drewN ?_ _ | refine Below.alloc ?_ (by simp; try omega) _ | refine Below.setCell ?_ (by simp; try omega) _ | refine below_setRow ?_ (by simp; try omega) _)) hb1); have HBA := Lib.hid (blk_keep hb1 (by first | exact HBA.out | exact blk_keep (by repeat (first | exact Below.refl _ _ | assumption | refine Below.drew ?_ | refine below_drewN ?_ _ | refine Below.alloc ?_ (by simp; try omega) _ | refine Below.setCell ?_ (by simp; try omega) _ | refine below_setRow ?_ (by simp; try omega) _)) HBA.out)); have cA := (fun j => cell_of_row _ _ j _ _ _ HBA.out); have fA := (fun j => free_of_row HBA.out j); have HBB := Lib.hid (blk_keep hb1 (by first | exact HBB.out | exact blk_keep (by repeat (first | exact Below.refl _ _ | assumption | refine Below.drew ?_ | refine below_drewN ?_ _ | refine Below.alloc ?_ (by simp; try omega) _ | refine Below.setCell ?_ (by simp; try omega) _ | refine below_setRow ?_ (by simp; try omega) _)) HBB.out)); have cB := (fun j => cell_of_row _ _ j _ _ _ HBB.out); have fB := (fun j => free_of_row HBB.out j)) | (go_at_call 12; refine (C2.out _).mono ?_; rintro e w1 ⟨rfl, hb1⟩; have hB := (show Below w.heap.size w _ from below_after (by repeat (first | exact Below.refl _ _ | assumption | refine Below.drew ?_ | refine below_drewN ?_ _ | refine Below.alloc ?_ (by simp; try omega) _ | refine Below.setCell ?_ (by simp; try omega) _ | refine below_setRow ?_ (by simp; try omega) _)) hb1); have HBA := Lib.hid (blk_keep hb1 (by first | exact HBA.out | exact blk_keep (by repeat (first | exact Below.refl _ _ | assumption | refine Below.drew ?_ | refine below_drewN ?_ _ | refine Below.alloc ?_ (by simp; try omega) _ | refine Below.setCell ?_ (by simp; try omega) _ | refine below_setRow ?_ (by simp; try omega) _)) HBA.out)); have cA := (fun j => cell_of_row _ _ j _ _ _ HBA.out); have fA := (fun j => free_of_row HBA.out j); have HBB := Lib.hid (blk_keep hb1 (by first | exact HBB.out | exact blk_keep (by repeat (first | exact Below.refl _ _ | assumption | refine Below.drew ?_ | refine below_drewN ?_ _ | refine Below.alloc ?_ (by simp; try omega) _ | refine Below.setCell ?_ (by simp; try omega) _ | refine below_setRow ?_ (by simp; try omega) _)) HBB.out)); have cB := (fun j => cell_of_row _ _ j _ _ _ HBB.out); have fB := (fun j => free_of_row HBB.out j)))
    go_ret
    exact ⟨by simp, hB⟩
end Go.Proofs.Ytomladkeanieeaa
