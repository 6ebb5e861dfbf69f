/- A register's number, by the thin package; two registers of one place. -/
import Derived.Test.YtomladkeanieeaaSpecR
namespace Go.Proofs.Ytomladkeanieeaa
open Go.RowKit

theorem WorldAt.drewN {w : World} {bw : Nat} {F : Nat → Option Nat} (h : WorldAt w bw F) (n : Nat) : WorldAt (w.drewN n) bw F := h.below (below_drewN (Below.refl _ _) n)
theorem Wd.below {bw : Nat} {F F' : Nat → Option Nat} {w w' : World} {B : Nat} {w0 : World} (h : Wd bw F w F' w') (hb : Below B w0 w) (hB : B ≤ bw) (hs : B ≤ w.heap.size) : Below B w0 w' :=
  hb.grown h.grown hs (fun k hk => by cases hk; exact hB)
theorem Wd.fams {bw : Nat} {F F' : Nat → Option Nat} {w w' : World} (h : Wd bw F w F' w') : FamsAt w' F' := h.here.2.1

theorem worldAt_new1 (w : World) (o : Obj) : WorldAt ((w.alloc o).alloc (.cells (famCells NoFam) 91)) (w.heap.size + 1) NoFam := by
  have := worldAt_new (w.alloc o)
  simpa using this

/-- Two registers have one place. -/
def likeB (a b : Rg) : Bool := a.virt == b.virt && a.kind == b.kind && a.idx == b.idx
theorem like_any (a b : Rg) (w : World) :
    Calls Try.prog 10 #[a.val, b.val] w fun e w' => e = .returned (.bool (likeB a b)) ∧ Below w.heap.size w w' := by
  obtain ⟨va, ka, ia, sa⟩ := a
  obtain ⟨vb, kb, ib, sb⟩ := b
  have q0 : ∀ x y : Bool, ∀ W, (binOp .eql 4 (.bool x) (.bool y)).run Try.prog W = .ok (.bool (x == y)) W := fun x y W => by simp [go_sem]
  unfold Rg.val likeB
  simp only
  by_cases h1 : va = vb
  · subst h1
    by_cases h2 : ka = kb
    · subst h2
      have HV := Lib.hid (nat_beq ia ib)
      go_enter Try.func10, Try.ntmps10
      go_wp2
      all_goals
        go_ret
        exact ⟨by rw [← HV.out]; simp [*], (by repeat (first | exact Below.refl _ _ | assumption | refine Below.drew ?_ | refine below_drewN ?_ _ | refine Below.alloc ?_ (by simp; try omega) _ | refine Below.setCell ?_ (by simp; try omega) _ | refine below_setRow ?_ (by simp; try omega) _))⟩
    · have HV := Lib.hid (show (ka == kb) = false from by simpa using h2)
      have q1 : ((ka : Int) == (kb : Int)) = false := by simp; omega
      clear h2
      go_enter Try.func10, Try.ntmps10
      go_wp2
      all_goals
        go_ret
        exact ⟨by rw [HV.out]; simp [*], (by repeat (first | exact Below.refl _ _ | assumption | refine Below.drew ?_ | refine below_drewN ?_ _ | refine Below.alloc ?_ (by simp; try omega) _ | refine Below.setCell ?_ (by simp; try omega) _ | refine below_setRow ?_ (by simp; try omega) _))⟩
  · have HV := Lib.hid (show (va == vb) = false from by simpa using h1)
    have q1 : (va == vb) = false := by simpa using h1
    clear h1
    go_enter Try.func10, Try.ntmps10
    go_wp2
    all_goals
      go_ret
      exact ⟨by rw [HV.out]; simp [*], (by repeat (first | exact Below.refl _ _ | assumption | refine Below.drew ?_ | refine below_drewN ?_ _ | refine Below.alloc ?_ (by simp; try omega) _ | refine Below.setCell ?_ (by simp; try omega) _ | refine below_setRow ?_ (by simp; try omega) _))⟩

/-- What RegID tells. -/
def regIdOr (r : Rg) : Value := .tuple #[.int .u32 ((if isReg r then regId r else 0 : Nat) : Int), .bool (isReg r)]
set_option maxHeartbeats 2000000 in
theorem regID_any (r : Rg) (hr : r.ok) (w : World) :
    Calls Try.prog 8 #[r.val] w fun e w' => e = .returned (regIdOr r) ∧ Below w.heap.size w w' := by
  have HR := Lib.hid hr
  clear hr
  unfold regIdOr
  have hN : ∀ o, WorldAt ((w.alloc o).alloc (.cells (famCells NoFam) 91)).drew (w.heap.size + 1) NoFam := fun o => (worldAt_new1 w o).below (by repeat (first | exact Below.refl _ _ | assumption | refine Below.drew ?_ | refine below_drewN ?_ _ | refine Below.alloc ?_ (by simp; try omega) _ | refine Below.setCell ?_ (by simp; try omega) _ | refine below_setRow ?_ (by simp; try omega) _))
  have HN := Lib.hid hN
  clear hN
  cases hi : isReg r with
  | true =>
    have HI := Lib.hid hi
    clear hi
    unfold Rg.val
    go_enter Try.func8, Try.ntmps8
    go_wp2_with (fail)
    go_region_with (first | (go_at_call 21; refine (newworld_any _).mono ?_; rintro e w1 ⟨rfl, rfl⟩) | (go_at_call 22; refine (wreg_any (w.heap.size + 1) NoFam r HR.out _ (HN.out _)).mono ?_; rintro e w1 ⟨F, hWd, h1, h2⟩; obtain ⟨t, x, hM, hK, rfl⟩ := h1 HI.out; have HW := Lib.hid hWd; have HM := Lib.hid hM; clear hWd h1 h2 hM hK))
    all_goals
      obtain ⟨f1, a1, m1, c1, k1⟩ := HM.out.id
      have K1 := Lib.hid k1
      clear k1
      have hf1 := HW.out.fams
      have hB : Below w.heap.size w w1 := HW.out.below (by repeat (first | exact Below.refl _ _ | assumption | refine Below.drew ?_ | refine below_drewN ?_ _ | refine Below.alloc ?_ (by simp; try omega) _ | refine Below.setCell ?_ (by simp; try omega) _ | refine below_setRow ?_ (by simp; try omega) _)) (by omega) (by simp; omega)
      go_wp2_with (((with_reducible refine (K1.out _ (by first | assumption | exact FamsAt.below (by assumption) (by repeat (first | exact Below.refl _ _ | assumption | refine Below.drew ?_ | refine below_drewN ?_ _ | refine Below.alloc ?_ (by simp; try omega) _ | refine Below.setCell ?_ (by simp; try omega) _ | refine below_setRow ?_ (by simp; try omega) _)))).mono ?_); rintro e w1 ⟨rfl, hb1⟩; have hf1 := FamsAt.below (by first | assumption | exact FamsAt.below (by assumption) (by repeat (first | exact Below.refl _ _ | assumption | refine Below.drew ?_ | refine below_drewN ?_ _ | refine Below.alloc ?_ (by simp; try omega) _ | refine Below.setCell ?_ (by simp; try omega) _ | refine below_setRow ?_ (by simp; try omega) _))) hb1; have hB := (show Below w.heap.size w _ from below_after (by repeat (first | exact Below.refl _ _ | assumption | refine Below.drew ?_ | refine below_drewN ?_ _ | refine Below.alloc ?_ (by simp; try omega) _ | refine Below.setCell ?_ (by simp; try omega) _ | refine below_setRow ?_ (by simp; try omega) _)) hb1); try (have HB := Lib.hid (blk_keep hb1 HB.out))))
      go_ret2
      exact ⟨rfl, hB⟩
  | false =>
    have HI := Lib.hid hi
    clear hi
    unfold Rg.val
    go_enter Try.func8, Try.ntmps8
    go_wp2_with (fail)
    go_region_with (first | (go_at_call 21; refine (newworld_any _).mono ?_; rintro e w1 ⟨rfl, rfl⟩) | (go_at_call 22; refine (wreg_any (w.heap.size + 1) NoFam r HR.out _ (HN.out _)).mono ?_; rintro e w1 ⟨F, hWd, h1, h2⟩; obtain rfl := h2 HI.out; have HW := Lib.hid hWd; clear hWd h1 h2))
    all_goals
      have hB : Below w.heap.size w w1 := HW.out.below (by repeat (first | exact Below.refl _ _ | assumption | refine Below.drew ?_ | refine below_drewN ?_ _ | refine Below.alloc ?_ (by simp; try omega) _ | refine Below.setCell ?_ (by simp; try omega) _ | refine below_setRow ?_ (by simp; try omega) _)) (by omega) (by simp; omega)
      go_wp2
      go_ret2
      exact ⟨rfl, hB⟩
end Go.Proofs.Ytomladkeanieeaa
