/- FnSame returns true, whatever the two registers are; it writes nothing that was there. No condition. -/
import Derived.Test.YtomladkeanieeaaExt
namespace Go.Proofs.Ytomladkeanieeaa
open Go.RowKit
set_option linter.unusedVariables false
set_option linter.unusedSimpArgs false

/-- What reg.Equal tells of two registers. -/
def equalB (a b : Rg) : Bool := ((regId a : Int) == (regId b : Int)) && ((a.spec : Int) == (b.spec : Int))
theorem equalB_eq {a b : Rg} (ha : a.ok) (hb : b.ok) : equalB a b = decide (a = b) := by
  unfold equalB
  by_cases h : a = b
  · subst h; simp
  · rw [decide_eq_false h, Bool.and_eq_false_iff]
    by_cases h1 : regId a = regId b
    · right
      obtain ⟨e1, e2, e3⟩ := regId_inj ha hb h1
      have : a.spec ≠ b.spec := by
        intro e4
        apply h
        obtain ⟨va, ka, ia, sa⟩ := a
        obtain ⟨vb, kb, ib, sb⟩ := b
        simp_all
      simp; omega
    · left; simp; omega

set_option maxHeartbeats 1000000 in
theorem equal_any (F : Nat → Option Nat) (a b : Rg) (t u : Nat) (x y : Value) (hA : RgM F a t x) (hB : RgM F b u y) (w : World) (hf : FamsAt w F) :
    Calls Try.prog 24 #[.iface t x, .iface u y] w fun e w' => e = .returned (.bool (equalB a b)) ∧ Below w.heap.size w w' := by
  obtain ⟨f1, a1, m1, c1, k1⟩ := hA.id
  obtain ⟨f2, a2, m2, c2, k2⟩ := hB.id
  obtain ⟨f3, a3, m3, c3, k3⟩ := hA.mask
  obtain ⟨f4, a4, m4, c4, k4⟩ := hB.mask
  have K1 := Lib.hid k1
  have K2 := Lib.hid k2
  have K3 := Lib.hid k3
  have K4 := Lib.hid k4
  have hB0 := Below.refl w.heap.size w
  clear k1 k2 k3 k4 hA hB
  unfold equalB
  cases hq : ((regId a : Int) == (regId b : Int))
  all_goals
    go_enter Try.func24, Try.ntmps24
    go_wp2_with (first | ((with_reducible refine (K1.out _ (by first | assumption | exact FamsAt.below (by assumption) (by repeat (first | exact Below.refl _ _ | assumption | refine Below.drew ?_ | refine below_drewN ?_ _ | refine Below.alloc ?_ (by simp; try omega) _ | refine Below.setCell ?_ (by simp; try omega) _ | refine below_setRow ?_ (by simp; try omega) _)))).mono ?_); rintro e w1 ⟨rfl, hb1⟩; have hf1 := FamsAt.below (by first | assumption | exact FamsAt.below (by assumption) (by repeat (first | exact Below.refl _ _ | assumption | refine Below.drew ?_ | refine below_drewN ?_ _ | refine Below.alloc ?_ (by simp; try omega) _ | refine Below.setCell ?_ (by simp; try omega) _ | refine below_setRow ?_ (by simp; try omega) _))) hb1; have hB := (show Below w.heap.size w _ from below_after (by repeat (first | exact Below.refl _ _ | assumption | refine Below.drew ?_ | refine below_drewN ?_ _ | refine Below.alloc ?_ (by simp; try omega) _ | refine Below.setCell ?_ (by simp; try omega) _ | refine below_setRow ?_ (by simp; try omega) _)) hb1); try (have HB := Lib.hid (blk_keep hb1 HB.out))) | ((with_reducible refine (K2.out _ (by first | assumption | exact FamsAt.below (by assumption) (by repeat (first | exact Below.refl _ _ | assumption | refine Below.drew ?_ | refine below_drewN ?_ _ | refine Below.alloc ?_ (by simp; try omega) _ | refine Below.setCell ?_ (by simp; try omega) _ | refine below_setRow ?_ (by simp; try omega) _)))).mono ?_); rintro e w1 ⟨rfl, hb1⟩; have hf1 := FamsAt.below (by first | assumption | exact FamsAt.below (by assumption) (by repeat (first | exact Below.refl _ _ | assumption | refine Below.drew ?_ | refine below_drewN ?_ _ | refine Below.alloc ?_ (by simp; try omega) _ | refine Below.setCell ?_ (by simp; try omega) _ | refine below_setRow ?_ (by simp; try omega) _))) hb1; have hB := (show Below w.heap.size w _ from below_after (by repeat (first | exact Below.refl _ _ | assumption | refine Below.drew ?_ | refine below_drewN ?_ _ | refine Below.alloc ?_ (by simp; try omega) _ | refine Below.setCell ?_ (by simp; try omega) _ | refine below_setRow ?_ (by simp; try omega) _)) hb1); try (have HB := Lib.hid (blk_keep hb1 HB.out))) | ((with_reducible refine (K3.out _ (by first | assumption | exact FamsAt.below (by assumption) (by repeat (first | exact Below.refl _ _ | assumption | refine Below.drew ?_ | refine below_drewN ?_ _ | refine Below.alloc ?_ (by simp; try omega) _ | refine Below.setCell ?_ (by simp; try omega) _ | refine below_setRow ?_ (by simp; try omega) _)))).mono ?_); rintro e w1 ⟨rfl, hb1⟩; have hf1 := FamsAt.below (by first | assumption | exact FamsAt.below (by assumption) (by repeat (first | exact Below.refl _ _ | assumption | refine Below.drew ?_ | refine below_drewN ?_ _ | refine Below.alloc ?_ (by simp; try omega) _ | refine Below.setCell ?_ (by simp; try omega) _ | refine below_setRow ?_ (by simp; try omega) _))) hb1; have hB := (show Below w.heap.size w _ from below_after (by repeat (first | exact Below.refl _ _ | assumption | refine Below.drew ?_ | refine below_drewN ?_ _ | refine Below.alloc ?_ (by simp; try omega) _ | refine Below.setCell ?_ (by simp; try omega) _ | refine below_setRow ?_ (by simp; try omega) _)) hb1); try (have HB := Lib.hid (blk_keep hb1 HB.out))) | ((with_reducible refine (K4.out _ (by first | assumption | exact FamsAt.below (by assumption) (by repeat (first | exact Below.refl _ _ | assumption | refine Below.drew ?_ | refine below_drewN ?_ _ | refine Below.alloc ?_ (by simp; try omega) _ | refine Below.setCell ?_ (by simp; try omega) _ | refine below_setRow ?_ (by simp; try omega) _)))).mono ?_); rintro e w1 ⟨rfl, hb1⟩; have hf1 := FamsAt.below (by first | assumption | exact FamsAt.below (by assumption) (by repeat (first | exact Below.refl _ _ | assumption | refine Below.drew ?_ | refine below_drewN ?_ _ | refine Below.alloc ?_ (by simp; try omega) _ | refine Below.setCell ?_ (by simp; try omega) _ | refine below_setRow ?_ (by simp; try omega) _))) hb1; have hB := (show Below w.heap.size w _ from below_after (by repeat (first | exact Below.refl _ _ | assumption | refine Below.drew ?_ | refine below_drewN ?_ _ | refine Below.alloc ?_ (by simp; try omega) _ | refine Below.setCell ?_ (by simp; try omega) _ | refine below_setRow ?_ (by simp; try omega) _)) hb1); try (have HB := Lib.hid (blk_keep hb1 HB.out))))
    go_ret
    exact ⟨by simp, hB⟩

/-- What Same tells. -/
def sameOr (a b : Rg) : Value := .tuple #[.bool (isReg a && isReg b && equalB a b), .bool (isReg a && isReg b)]
set_option maxHeartbeats 4000000 in
theorem same_any (a b : Rg) (ha : a.ok) (hb : b.ok) (w : World) :
    Calls Try.prog 11 #[a.val, b.val] w fun e w' => e = .returned (sameOr a b) ∧ Below w.heap.size w w' := by
  have HA := Lib.hid ha
  have HB := Lib.hid hb
  clear ha hb
  unfold sameOr
  have HBA := Lib.hid (blk_alloc (blk_alloc (heap_alloc_new w (.cells #[.bool a.virt, .int .u8 a.kind, .int .u16 a.idx, .int .u16 a.spec] 24)) (.cells #[.bool b.virt, .int .u8 b.kind, .int .u16 b.idx, .int .u16 b.spec] 24)) (.cells (famCells NoFam) 91))
  have HBB := Lib.hid (blk_alloc (heap_alloc2_new w (.cells #[.bool a.virt, .int .u8 a.kind, .int .u16 a.idx, .int .u16 a.spec] 24) (.cells #[.bool b.virt, .int .u8 b.kind, .int .u16 b.idx, .int .u16 b.spec] 24)) (.cells (famCells NoFam) 91))
  have HN := Lib.hid (worldAt_new2 w (.cells #[.bool a.virt, .int .u8 a.kind, .int .u16 a.idx, .int .u16 a.spec] 24) (.cells #[.bool b.virt, .int .u8 b.kind, .int .u16 b.idx, .int .u16 b.spec] 24))
  cases hia : isReg a <;> cases hib : isReg b
  all_goals
    have HIA := Lib.hid hia
    have HIB := Lib.hid hib
    clear hia hib
    go_enter Try.func11, Try.ntmps11
    go_wp2_with (go_at_call 21; refine (newworld_any _).mono ?_; rintro e w1 ⟨rfl, rfl⟩)
    refine (wreg2_any (w.heap.size + 1 + 1) NoFam a HA.out _ HN.out).mono ?_
    rintro e w1 ⟨F1, t1, x1, hW1, p1, rfl⟩
    have HW1 := Lib.hid hW1
    have HBA1 := Lib.hid (hW1.blk HN.out HBA.out (by decide))
    have HBB1 := Lib.hid (hW1.blk HN.out HBB.out (by decide))
    have HP1 := Lib.hid p1
    have cA1 := fun j => cell_of_row _ _ j _ _ _ HBA1.out
    have cB1 := fun j => cell_of_row _ _ j _ _ _ HBB1.out
    clear hW1 p1
    rw [HIA.out]
    go_wp2_with (fail)
    refine (wreg2_any (w.heap.size + 1 + 1) F1 b HB.out _ HW1.out.here).mono ?_
    rintro e w2 ⟨F2, t2, x2, hW2, p2, rfl⟩
    have HW2 := Lib.hid hW2
    have HP2 := Lib.hid p2
    have hB : Below w.heap.size w w2 := (HW1.out.trans hW2).below (by repeat (first | exact Below.refl _ _ | assumption | refine Below.drew ?_ | refine below_drewN ?_ _ | refine Below.alloc ?_ (by simp; try omega) _ | refine Below.setCell ?_ (by simp; try omega) _ | refine below_setRow ?_ (by simp; try omega) _)) (by omega) (by simp; omega)
    clear hW2 p2
    rw [HIB.out]
    go_wp2_with (go_at_call 24; refine (equal_any F2 a b t1 t2 x1 x2 ((HP1.out HIA.out).1.more (HP1.out HIA.out).2 HW2.out.ext) (HP2.out HIB.out).1 _ HW2.out.fams).mono ?_; rintro e w3 ⟨rfl, hb1⟩; have hB := (show Below w.heap.size w _ from below_after (by repeat (first | exact Below.refl _ _ | assumption | refine Below.drew ?_ | refine below_drewN ?_ _ | refine Below.alloc ?_ (by simp; try omega) _ | refine Below.setCell ?_ (by simp; try omega) _ | refine below_setRow ?_ (by simp; try omega) _)) hb1))
    go_ret2
    exact ⟨by simp, hB⟩

/-- What the reference tells. -/
def specSame (a b : Rg) : Value := .tuple #[.bool (isReg a && isReg b && decide (a = b)), .bool (isReg a && isReg b)]
set_option maxHeartbeats 4000000 in
theorem specSame_any (a b : Rg) (w : World) :
    Calls Try.prog 12 #[a.val, b.val] w fun e w' => e = .returned (specSame a b) ∧ Below w.heap.size w w' := by
  unfold specSame
  have HBA := Lib.hid (blk_alloc (heap_alloc_new w (.cells #[.bool a.virt, .int .u8 a.kind, .int .u16 a.idx, .int .u16 a.spec] 24)) (.cells #[.bool b.virt, .int .u8 b.kind, .int .u16 b.idx, .int .u16 b.spec] 24))
  have HBB := Lib.hid (heap_alloc2_new w (.cells #[.bool a.virt, .int .u8 a.kind, .int .u16 a.idx, .int .u16 a.spec] 24) (.cells #[.bool b.virt, .int .u8 b.kind, .int .u16 b.idx, .int .u16 b.spec] 24))
  have qe := eqReg_run a b
  cases hia : isReg a <;> cases hib : isReg b
  all_goals
    have HIA := Lib.hid hia
    have HIB := Lib.hid hib
    clear hia hib
    unfold Rg.val at *
    go_enter Try.func12, Try.ntmps12
    go_wp2_with (first | (go_at_call 9; (with_reducible refine (isRegister_any a _).mono ?_); rw [HIA.out]; rintro e w1 ⟨rfl, hb1⟩; have hB := (show Below w.heap.size w _ from below_after (by repeat (first | exact Below.refl _ _ | assumption | refine Below.drew ?_ | refine below_drewN ?_ _ | refine Below.alloc ?_ (by simp; try omega) _ | refine Below.setCell ?_ (by simp; try omega) _ | refine below_setRow ?_ (by simp; try omega) _)) hb1); have HBA := Lib.hid (blk_keep hb1 (by first | exact HBA.out | exact blk_keep (by repeat (first | exact Below.refl _ _ | assumption | refine Below.drew ?_ | refine below_drewN ?_ _ | refine Below.alloc ?_ (by simp; try omega) _ | refine Below.setCell ?_ (by simp; try omega) _ | refine below_setRow ?_ (by simp; try omega) _)) HBA.out)); have cA := (fun j => cell_of_row _ _ j _ _ _ HBA.out); have fA := (fun j => free_of_row HBA.out j); have HBB := Lib.hid (blk_keep hb1 (by first | exact HBB.out | exact blk_keep (by repeat (first | exact Below.refl _ _ | assumption | refine Below.drew ?_ | refine below_drewN ?_ _ | refine Below.alloc ?_ (by simp; try omega) _ | refine Below.setCell ?_ (by simp; try omega) _ | refine below_setRow ?_ (by simp; try omega) _)) HBB.out)); have cB := (fun j => cell_of_row _ _ j _ _ _ HBB.out); have fB := (fun j => free_of_row HBB.out j)) | (go_at_call 9; (with_reducible refine (isRegister_any b _).mono ?_); rw [HIB.out]; rintro e w1 ⟨rfl, hb1⟩; have hB := (show Below w.heap.size w _ from below_after (by repeat (first | exact Below.refl _ _ | assumption | refine Below.drew ?_ | refine below_drewN ?_ _ | refine Below.alloc ?_ (by simp; try omega) _ | refine Below.setCell ?_ (by simp; try omega) _ | refine below_setRow ?_ (by simp; try omega) _)) hb1); have HBA := Lib.hid (blk_keep hb1 (by first | exact HBA.out | exact blk_keep (by repeat (first | exact Below.refl _ _ | assumption | refine Below.drew ?_ | refine below_drewN ?_ _ | refine Below.alloc ?_ (by simp; try omega) _ | refine Below.setCell ?_ (by simp; try omega) _ | refine below_setRow ?_ (by simp; try omega) _)) HBA.out)); have cA := (fun j => cell_of_row _ _ j _ _ _ HBA.out); have fA := (fun j => free_of_row HBA.out j); have HBB := Lib.hid (blk_keep hb1 (by first | exact HBB.out | exact blk_keep (by repeat (first | exact Below.refl _ _ | assumption | refine Below.drew ?_ | refine below_drewN ?_ _ | refine Below.alloc ?_ (by simp; try omega) _ | refine Below.setCell ?_ (by simp; try omega) _ | refine below_setRow ?_ (by simp; try omega) _)) HBB.out)); have cB := (fun j => cell_of_row _ _ j _ _ _ HBB.out); have fB := (fun j => free_of_row HBB.out j)))
    go_ret2
    exact ⟨by simp, hB⟩
end Go.Proofs.Ytomladkeanieeaa
