/- FnNumbersDiffer returns true, whatever the two registers are; it writes nothing that was there. No condition. -/
import Derived.Test.YtomladkeanieeaaNum
namespace Go.Proofs.Ytomladkeanieeaa
open Go.RowKit

theorem regId_like {a b : Rg} (ha : a.ok) (hb : b.ok) : ((regId a : Int) == (regId b : Int)) = likeB a b := by
  rw [nat_beq]
  by_cases h : regId a = regId b
  · obtain ⟨h1, h2, h3⟩ := regId_inj ha hb h
    simp [h, likeB, h1, h2, h3]
  · have h' : (regId a == regId b) = false := by simpa using h
    rw [h']
    symm
    unfold likeB
    rw [Bool.and_eq_false_iff, Bool.and_eq_false_iff]
    by_cases h1 : a.virt = b.virt
    · by_cases h2 : a.kind = b.kind
      · right
        simp only [beq_eq_false_iff_ne]
        intro h3
        apply h
        unfold regId
        rw [h1, h2, h3]
      · left; right; simpa using h2
    · left; left; simpa using h1

set_option maxHeartbeats 2000000 in
theorem numbersDiffer_walk (a b : Rg) (ha : a.ok) (hb : b.ok) (w : World) :
    Calls Try.prog 3 #[a.val, b.val] w fun e w' => e = .returned (.bool true) ∧ Below w.heap.size w w' := by
  have HA := Lib.hid ha
  have HB := Lib.hid hb
  have HL := Lib.hid (regId_like ha hb)
  have qe : ∀ x y : Bool, ∀ W, (binOp .eql 4 (.bool x) (.bool y)).run Try.prog W = .ok (.bool (x == y)) W := fun x y W => by simp [go_sem]
  clear ha hb
  cases hia : isReg a <;> cases hib : isReg b
  all_goals
    have HIA := Lib.hid hia
    have HIB := Lib.hid hib
    have hra : regIdOr a = .tuple #[.int .u32 ((if isReg a then regId a else 0 : Nat) : Int), .bool (isReg a)] := rfl
    have hrb : regIdOr b = .tuple #[.int .u32 ((if isReg b then regId b else 0 : Nat) : Int), .bool (isReg b)] := rfl
    rw [hia] at hra
    rw [hib] at hrb
    simp only [if_true, Bool.false_eq_true, if_false] at hra hrb
    have HRA := Lib.hid hra
    have HRB := Lib.hid hrb
    clear hia hib hra hrb
    have HBA := Lib.hid (blk_alloc (heap_alloc_new w (.cells #[.bool a.virt, .int .u8 a.kind, .int .u16 a.idx, .int .u16 a.spec] 24)) (.cells #[.bool b.virt, .int .u8 b.kind, .int .u16 b.idx, .int .u16 b.spec] 24))
    have HBB := Lib.hid (heap_alloc2_new w (.cells #[.bool a.virt, .int .u8 a.kind, .int .u16 a.idx, .int .u16 a.spec] 24) (.cells #[.bool b.virt, .int .u8 b.kind, .int .u16 b.idx, .int .u16 b.spec] 24))
    unfold Rg.val
    go_enter Try.func3, Try.ntmps3
    go_wp2_with (fail)
    refine (regID_any a HA.out _).mono ?_
    rw [HRA.out]
    rintro e w1 ⟨rfl, hb1⟩
    have hB := (show Below w.heap.size w _ from below_after (by repeat (first | exact Below.refl _ _ | assumption | refine Below.drew ?_ | refine below_drewN ?_ _ | refine Below.alloc ?_ (by simp; try omega) _ | refine Below.setCell ?_ (by simp; try omega) _ | refine below_setRow ?_ (by simp; try omega) _)) hb1); have HBA := Lib.hid (blk_keep hb1 (by first | exact HBA.out | exact blk_keep (by repeat (first | exact Below.refl _ _ | assumption | refine Below.drew ?_ | refine below_drewN ?_ _ | refine Below.alloc ?_ (by simp; try omega) _ | refine Below.setCell ?_ (by simp; try omega) _ | refine below_setRow ?_ (by simp; try omega) _)) HBA.out)); have cA := (fun j => cell_of_row _ _ j _ _ _ HBA.out); have fA := (fun j => free_of_row HBA.out j); have HBB := Lib.hid (blk_keep hb1 (by first | exact HBB.out | exact blk_keep (by repeat (first | exact Below.refl _ _ | assumption | refine Below.drew ?_ | refine below_drewN ?_ _ | refine Below.alloc ?_ (by simp; try omega) _ | refine Below.setCell ?_ (by simp; try omega) _ | refine below_setRow ?_ (by simp; try omega) _)) HBB.out)); have cB := (fun j => cell_of_row _ _ j _ _ _ HBB.out); have fB := (fun j => free_of_row HBB.out j)
    go_wp2_with (fail)
    refine (regID_any b HB.out _).mono ?_
    rw [HRB.out]
    rintro e w1 ⟨rfl, hb1⟩
    have hB := (show Below w.heap.size w _ from below_after (by repeat (first | exact Below.refl _ _ | assumption | refine Below.drew ?_ | refine below_drewN ?_ _ | refine Below.alloc ?_ (by simp; try omega) _ | refine Below.setCell ?_ (by simp; try omega) _ | refine below_setRow ?_ (by simp; try omega) _)) hb1); have HBA := Lib.hid (blk_keep hb1 (by first | exact HBA.out | exact blk_keep (by repeat (first | exact Below.refl _ _ | assumption | refine Below.drew ?_ | refine below_drewN ?_ _ | refine Below.alloc ?_ (by simp; try omega) _ | refine Below.setCell ?_ (by simp; try omega) _ | refine below_setRow ?_ (by simp; try omega) _)) HBA.out)); have cA := (fun j => cell_of_row _ _ j _ _ _ HBA.out); have fA := (fun j => free_of_row HBA.out j); have HBB := Lib.hid (blk_keep hb1 (by first | exact HBB.out | exact blk_keep (by repeat (first | exact Below.refl _ _ | assumption | refine Below.drew ?_ | refine below_drewN ?_ _ | refine Below.alloc ?_ (by simp; try omega) _ | refine Below.setCell ?_ (by simp; try omega) _ | refine below_setRow ?_ (by simp; try omega) _)) HBB.out)); have cB := (fun j => cell_of_row _ _ j _ _ _ HBB.out); have fB := (fun j => free_of_row HBB.out j)
    go_wp2_with (first | (go_at_call 9; (with_reducible refine (isRegister_any a _).mono ?_); rw [HIA.out]; rintro e w1 ⟨rfl, hb1⟩; have hB := (show Below w.heap.size w _ from below_after (by repeat (first | exact Below.refl _ _ | assumption | refine Below.drew ?_ | refine below_drewN ?_ _ | refine Below.alloc ?_ (by simp; try omega) _ | refine Below.setCell ?_ (by simp; try omega) _ | refine below_setRow ?_ (by simp; try omega) _)) hb1); have HBA := Lib.hid (blk_keep hb1 (by first | exact HBA.out | exact blk_keep (by repeat (first | exact Below.refl _ _ | assumption | refine Below.drew ?_ | refine below_drewN ?_ _ | refine Below.alloc ?_ (by simp; try omega) _ | refine Below.setCell ?_ (by simp; try omega) _ | refine below_setRow ?_ (by simp; try omega) _)) HBA.out)); have cA := (fun j => cell_of_row _ _ j _ _ _ HBA.out); have fA := (fun j => free_of_row HBA.out j); have HBB := Lib.hid (blk_keep hb1 (by first | exact HBB.out | exact blk_keep (by repeat (first | exact Below.refl _ _ | assumption | refine Below.drew ?_ | refine below_drewN ?_ _ | refine Below.alloc ?_ (by simp; try omega) _ | refine Below.setCell ?_ (by simp; try omega) _ | refine below_setRow ?_ (by simp; try omega) _)) HBB.out)); have cB := (fun j => cell_of_row _ _ j _ _ _ HBB.out); have fB := (fun j => free_of_row HBB.out j)) | (go_at_call 9; (with_reducible refine (isRegister_any b _).mono ?_); rw [HIB.out]; rintro e w1 ⟨rfl, hb1⟩; have hB := (show Below w.heap.size w _ from below_after (by repeat (first | exact Below.refl _ _ | assumption | refine Below.drew ?_ | refine below_drewN ?_ _ | refine Below.alloc ?_ (by simp; try omega) _ | refine Below.setCell ?_ (by simp; try omega) _ | refine below_setRow ?_ (by simp; try omega) _)) hb1); have HBA := Lib.hid (blk_keep hb1 (by first | exact HBA.out | exact blk_keep (by repeat (first | exact Below.refl _ _ | assumption | refine Below.drew ?_ | refine below_drewN ?_ _ | refine Below.alloc ?_ (by simp; try omega) _ | refine Below.setCell ?_ (by simp; try omega) _ | refine below_setRow ?_ (by simp; try omega) _)) HBA.out)); have cA := (fun j => cell_of_row _ _ j _ _ _ HBA.out); have fA := (fun j => free_of_row HBA.out j); have HBB := Lib.hid (blk_keep hb1 (by first | exact HBB.out | exact blk_keep (by repeat (first | exact Below.refl _ _ | assumption | refine Below.drew ?_ | refine below_drewN ?_ _ | refine Below.alloc ?_ (by simp; try omega) _ | refine Below.setCell ?_ (by simp; try omega) _ | refine below_setRow ?_ (by simp; try omega) _)) HBB.out)); have cB := (fun j => cell_of_row _ _ j _ _ _ HBB.out); have fB := (fun j => free_of_row HBB.out j)) | (go_at_call 10; refine (like_any a b _).mono ?_; rw [← HL.out]; rintro e w1 ⟨rfl, hb1⟩; have hB := (show Below w.heap.size w _ from below_after (by repeat (first | exact Below.refl _ _ | assumption | refine Below.drew ?_ | refine below_drewN ?_ _ | refine Below.alloc ?_ (by simp; try omega) _ | refine Below.setCell ?_ (by simp; try omega) _ | refine below_setRow ?_ (by simp; try omega) _)) hb1); have HBA := Lib.hid (blk_keep hb1 (by first | exact HBA.out | exact blk_keep (by repeat (first | exact Below.refl _ _ | assumption | refine Below.drew ?_ | refine below_drewN ?_ _ | refine Below.alloc ?_ (by simp; try omega) _ | refine Below.setCell ?_ (by simp; try omega) _ | refine below_setRow ?_ (by simp; try omega) _)) HBA.out)); have cA := (fun j => cell_of_row _ _ j _ _ _ HBA.out); have fA := (fun j => free_of_row HBA.out j); have HBB := Lib.hid (blk_keep hb1 (by first | exact HBB.out | exact blk_keep (by repeat (first | exact Below.refl _ _ | assumption | refine Below.drew ?_ | refine below_drewN ?_ _ | refine Below.alloc ?_ (by simp; try omega) _ | refine Below.setCell ?_ (by simp; try omega) _ | refine below_setRow ?_ (by simp; try omega) _)) HBB.out)); have cB := (fun j => cell_of_row _ _ j _ _ _ HBB.out); have fB := (fun j => free_of_row HBB.out j)))
    go_ret
    exact ⟨by simp, hB⟩
end Go.Proofs.Ytomladkeanieeaa
