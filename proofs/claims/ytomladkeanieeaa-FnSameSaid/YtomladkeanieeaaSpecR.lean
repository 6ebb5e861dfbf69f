/- The reference's own words on registers: which there are, their numbers. -/
import Derived.Test.YtomladkeanieeaaRegs
namespace Go.Proofs.Ytomladkeanieeaa
open Go.RowKit
set_option linter.unusedVariables false
set_option linter.unusedSimpArgs false

theorem has1 {i s : Nat} : has 1 i s = if s = 2 then decide (i < 4) else decide (i < 16) && (s == 1 || s == 3 || s == 7 || s == 15) := by
  unfold has
  by_cases h : s = 2 <;> simp [h]
theorem has_big {k i s : Nat} (h0 : k ≠ 0) (h1 : k ≠ 1) (h2 : k ≠ 2) (h3 : k ≠ 3) : has k i s = false := by
  unfold has
  split <;> first | rfl | contradiction

theorem nat_beq (a b : Nat) : ((a : Int) == (b : Int)) = (a == b) := by
  by_cases h : a = b
  · subst h; simp
  · have h' : (a == b) = false := by simpa using h
    rw [h']; simp; omega

set_option maxHeartbeats 1000000 in
theorem regHas_any (k i s : Nat) (w : World) :
    Calls Try.prog 23 #[.int .u8 k, .int .u16 i, .int .u16 s] w fun e w' => e = .returned (.bool (has k i s)) ∧ w = w' := by
  by_cases h0 : k = 0
  · subst h0
    by_cases hi : i = 0
    · subst hi
      by_cases hs : s = 0
      · subst hs
        go_enter Try.func23, Try.ntmps23
        go_wp2
        go_ret
        exact ⟨rfl, rfl⟩
      · have q : ((s : Int) == 0) = false := by simp; omega
        have HV := Lib.hid (show has 0 0 s = false from by simp [has]; omega)
        clear hs
        go_enter Try.func23, Try.ntmps23
        go_wp2
        go_ret
        exact ⟨by rw [HV.out]; rfl, rfl⟩
    · have q : ((i : Int) == 0) = false := by simp; omega
      have HV := Lib.hid (show has 0 i s = false from by simp [has]; omega)
      clear hi
      go_enter Try.func23, Try.ntmps23
      go_wp2
      go_ret
      exact ⟨by rw [HV.out]; rfl, rfl⟩
  by_cases h1 : k = 1
  · subst h1
    by_cases hs : s = 2
    · subst hs
      have HV := Lib.hid (show has 1 i 2 = decide ((i : Int) < 4) from by rw [has1, if_pos rfl]; exact decide_eq_decide.2 (by omega))
      go_enter Try.func23, Try.ntmps23
      go_wp2
      go_ret
      exact ⟨by rw [HV.out]; rfl, rfl⟩
    · have q2 : ((s : Int) == 2) = false := by simp; omega
      by_cases hi : i < 16
      · have HV : ∀ b, (s == 1 || s == 3 || s == 7 || s == 15) = b → has 1 i s = b := fun b hb => by rw [has1, if_neg hs, hb, decide_eq_true hi, Bool.true_and]
        by_cases e1 : s = 1
        · subst e1
          have HV := Lib.hid (HV true rfl)
          clear hs
          go_enter Try.func23, Try.ntmps23
          go_wp2
          go_ret
          exact ⟨by rw [HV.out]; rfl, rfl⟩
        by_cases e2 : s = 3
        · subst e2
          have HV := Lib.hid (HV true rfl)
          clear hs
          go_enter Try.func23, Try.ntmps23
          go_wp2
          go_ret
          exact ⟨by rw [HV.out]; rfl, rfl⟩
        by_cases e3 : s = 7
        · subst e3
          have HV := Lib.hid (HV true rfl)
          clear hs
          go_enter Try.func23, Try.ntmps23
          go_wp2
          go_ret
          exact ⟨by rw [HV.out]; rfl, rfl⟩
        by_cases e4 : s = 15
        · subst e4
          have HV := Lib.hid (HV true rfl)
          clear hs
          go_enter Try.func23, Try.ntmps23
          go_wp2
          go_ret
          exact ⟨by rw [HV.out]; rfl, rfl⟩
        have q3 : ((s : Int) == 1) = false := by simp; omega
        have q4 : ((s : Int) == 3) = false := by simp; omega
        have q5 : ((s : Int) == 7) = false := by simp; omega
        have q6 : ((s : Int) == 15) = false := by simp; omega
        have HV := Lib.hid (HV false (by simp [e1, e2, e3, e4]))
        clear hs e1 e2 e3 e4
        go_enter Try.func23, Try.ntmps23
        go_wp2
        go_ret
        exact ⟨by rw [HV.out]; rfl, rfl⟩
      · have HV := Lib.hid (show has 1 i s = false from by rw [has1, if_neg hs, decide_eq_false hi]; rfl)
        clear hs
        go_enter Try.func23, Try.ntmps23
        go_wp2
        go_ret
        exact ⟨by rw [HV.out]; rfl, rfl⟩
  by_cases h2 : k = 2
  · subst h2
    by_cases hi : i < 32
    · have HV : ∀ b, (s == 31 || s == 63 || s == 127) = b → has 2 i s = b := fun b hb => by show (decide (i < 32) && (s == 31 || s == 63 || s == 127)) = b; rw [hb, decide_eq_true hi, Bool.true_and]
      by_cases e1 : s = 31
      · subst e1
        have HV := Lib.hid (HV true rfl)
        go_enter Try.func23, Try.ntmps23
        go_wp2
        go_ret
        exact ⟨by rw [HV.out]; rfl, rfl⟩
      by_cases e2 : s = 63
      · subst e2
        have HV := Lib.hid (HV true rfl)
        go_enter Try.func23, Try.ntmps23
        go_wp2
        go_ret
        exact ⟨by rw [HV.out]; rfl, rfl⟩
      by_cases e3 : s = 127
      · subst e3
        have HV := Lib.hid (HV true rfl)
        go_enter Try.func23, Try.ntmps23
        go_wp2
        go_ret
        exact ⟨by rw [HV.out]; rfl, rfl⟩
      have q3 : ((s : Int) == 31) = false := by simp; omega
      have q4 : ((s : Int) == 63) = false := by simp; omega
      have q5 : ((s : Int) == 127) = false := by simp; omega
      have HV := Lib.hid (HV false (by simp [e1, e2, e3]))
      clear e1 e2 e3
      go_enter Try.func23, Try.ntmps23
      go_wp2
      go_ret
      exact ⟨by rw [HV.out]; rfl, rfl⟩
    · have HV := Lib.hid (show has 2 i s = false from by show (decide (i < 32) && _) = false; rw [decide_eq_false hi]; rfl)
      go_enter Try.func23, Try.ntmps23
      go_wp2
      go_ret
      exact ⟨by rw [HV.out]; rfl, rfl⟩
  by_cases h3 : k = 3
  · subst h3
    by_cases hi : i < 8
    · by_cases e1 : s = 15
      · subst e1
        have HV := Lib.hid (show has 3 i 15 = true from by simp [has, hi])
        go_enter Try.func23, Try.ntmps23
        go_wp2
        go_ret
        exact ⟨by rw [HV.out]; rfl, rfl⟩
      · have q3 : ((s : Int) == 15) = false := by simp; omega
        have HV := Lib.hid (show has 3 i s = false from by simp [has, e1])
        clear e1
        go_enter Try.func23, Try.ntmps23
        go_wp2
        go_ret
        exact ⟨by rw [HV.out]; rfl, rfl⟩
    · have HV := Lib.hid (show has 3 i s = false from by simp [has, hi])
      go_enter Try.func23, Try.ntmps23
      go_wp2
      go_ret
      exact ⟨by rw [HV.out]; rfl, rfl⟩
  have q0 : ((k : Int) == 0) = false := by simp; omega
  have q1 : ((k : Int) == 1) = false := by simp; omega
  have q2 : ((k : Int) == 2) = false := by simp; omega
  have q3 : ((k : Int) == 3) = false := by simp; omega
  have HV := Lib.hid (show has k i s = false from has_big h0 h1 h2 h3)
  clear h0 h1 h2 h3
  go_enter Try.func23, Try.ntmps23
  go_wp2
  go_ret
  exact ⟨by rw [HV.out]; rfl, rfl⟩

theorem isRegister_any (r : Rg) (w : World) :
    Calls Try.prog 9 #[r.val] w fun e w' => e = .returned (.bool (isReg r)) ∧ Below w.heap.size w w' := by
  obtain ⟨v, k, i, s⟩ := r
  unfold Rg.val isReg
  simp only
  have HV := Lib.hid (rfl : has k i s = has k i s)
  cases v with
  | true =>
    go_enter Try.func9, Try.ntmps9
    go_wp2
    go_ret
    exact ⟨rfl, (by repeat (first | exact Below.refl _ _ | assumption | refine Below.drew ?_ | refine below_drewN ?_ _ | refine Below.alloc ?_ (by simp; try omega) _ | refine Below.setCell ?_ (by simp; try omega) _ | refine below_setRow ?_ (by simp; try omega) _))⟩
  | false =>
    go_enter Try.func9, Try.ntmps9
    go_wp2_with (go_at_call 23; refine (regHas_any k i s _).mono ?_; rintro e w1 ⟨rfl, rfl⟩)
    go_ret
    exact ⟨by simp, (by repeat (first | exact Below.refl _ _ | assumption | refine Below.drew ?_ | refine below_drewN ?_ _ | refine Below.alloc ?_ (by simp; try omega) _ | refine Below.setCell ?_ (by simp; try omega) _ | refine below_setRow ?_ (by simp; try omega) _))⟩
end Go.Proofs.Ytomladkeanieeaa
