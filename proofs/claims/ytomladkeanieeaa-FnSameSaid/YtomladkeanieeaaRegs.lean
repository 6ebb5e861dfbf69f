/- The world's registers: made of plain data, told again; their methods. -/
import Derived.Test.YtomladkeanieeaaReg
namespace Go.Proofs.Ytomladkeanieeaa
open Go.RowKit
set_option linter.unusedVariables false
set_option linter.unusedSimpArgs false

theorem rgM_virt (F : Nat → Option Nat) (k i s : Nat) (hr : (Rg.mk true k i s).ok) : ∃ t x, RgM F ⟨true, k, i, s⟩ t x := by
  have A : ∀ t x, virtI ⟨true, k, i, s⟩ = .iface t x → (∀ w, (method 276 t x "ID").run Try.prog w = .ok (79, virtV ⟨true, k, i, s⟩) w) → (∀ w, (method 276 t x "Kind").run Try.prog w = .ok (80, virtV ⟨true, k, i, s⟩) w) →
      (∀ w, (method 276 t x "Mask").run Try.prog w = .ok (54, .int .u16 s) w) → (∀ w, (method 276 t x "VirtualIndex").run Try.prog w = .ok (81, virtV ⟨true, k, i, s⟩) w) →
      (∀ w T, (Instr.typeAssert (.iface t x) T 66 true).run Try.prog w = .ok (.tuple #[.iface t x, .bool true]) w) → (∀ w T, (Instr.typeAssert (.iface t x) T 95 true).run Try.prog w = .ok (.tuple #[.nilIface, .bool false]) w) → RgM F ⟨true, k, i, s⟩ t x := by
    intro t x h0 h1 h2 h3 h4 h5 h6
    exact ⟨by simpa [rgV] using h0, ⟨_, _, h1, fun w => by kernel_rfl, fun w _ => vid_any _ hr w⟩, ⟨_, _, h2, fun w => by kernel_rfl, fun w _ => vkind_any _ w⟩,
      ⟨_, _, h3, fun w => by kernel_rfl, fun w _ => (mask_any s w).mono fun e w' ⟨h, h'⟩ => ⟨h, by subst h'; exact Below.refl _ _⟩⟩, fun _ => ⟨_, _, h4, fun w => by kernel_rfl, fun w _ => vidx_any _ w⟩, (fun h => by cases h),
      fun w T => h5 w T, fun w T => h6 w T⟩
  match k with
  | 1 => exact ⟨_, _, A _ _ rfl (fun w => by unfold virtV; kernel_rfl) (fun w => by unfold virtV; kernel_rfl) (fun w => by unfold virtV; kernel_rfl) (fun w => by unfold virtV; kernel_rfl) (fun w T => run_typeAssert_hasB Try.underlying66 (by kernel_rfl) _ T w) (fun w T => run_typeAssert_lacksB Try.underlying95 (by kernel_rfl) (by kernel_rfl) _ T w)⟩
  | 2 => exact ⟨_, _, A _ _ rfl (fun w => by unfold virtV; kernel_rfl) (fun w => by unfold virtV; kernel_rfl) (fun w => by unfold virtV; kernel_rfl) (fun w => by unfold virtV; kernel_rfl) (fun w T => run_typeAssert_hasB Try.underlying66 (by kernel_rfl) _ T w) (fun w T => run_typeAssert_lacksB Try.underlying95 (by kernel_rfl) (by kernel_rfl) _ T w)⟩
  | 3 => exact ⟨_, _, A _ _ rfl (fun w => by unfold virtV; kernel_rfl) (fun w => by unfold virtV; kernel_rfl) (fun w => by unfold virtV; kernel_rfl) (fun w => by unfold virtV; kernel_rfl) (fun w T => run_typeAssert_hasB Try.underlying66 (by kernel_rfl) _ T w) (fun w T => run_typeAssert_lacksB Try.underlying95 (by kernel_rfl) (by kernel_rfl) _ T w)⟩
  | 0 => exact ⟨_, _, A _ _ rfl (fun w => by unfold virtV; kernel_rfl) (fun w => by unfold virtV; kernel_rfl) (fun w => by unfold virtV; kernel_rfl) (fun w => by unfold virtV; kernel_rfl) (fun w T => run_typeAssert_hasB Try.underlying66 (by kernel_rfl) _ T w) (fun w T => run_typeAssert_lacksB Try.underlying95 (by kernel_rfl) (by kernel_rfl) _ T w)⟩
  | n + 4 => exact ⟨_, _, A _ _ rfl (fun w => by unfold virtV; kernel_rfl) (fun w => by unfold virtV; kernel_rfl) (fun w => by unfold virtV; kernel_rfl) (fun w => by unfold virtV; kernel_rfl) (fun w T => run_typeAssert_hasB Try.underlying66 (by kernel_rfl) _ T w) (fun w T => run_typeAssert_lacksB Try.underlying95 (by kernel_rfl) (by kernel_rfl) _ T w)⟩

theorem rgM_phys (F : Nat → Option Nat) (k i s : Nat) (hr : (Rg.mk false k i s).ok) (hh : has k i s = true) (hF : ∃ b, F k = some b) : ∃ t x, RgM F ⟨false, k, i, s⟩ t x := by
  obtain ⟨b, hb⟩ := hF
  obtain ⟨e0, he, hi, hs⟩ := phys_of_has hh
  obtain ⟨t, x, hx, hM⟩ := entM k b e0
  have hk := (has_lt hh).1
  obtain ⟨r1, r2, r3⟩ := hr
  simp only at r1 r2 r3
  have hv : rgV F ⟨false, k, i, s⟩ = .iface t x := by
    rw [rgV_phys]
    unfold found
    rw [he, hb]
    exact hx
  subst hi
  subst hs
  exact ⟨t, x, hv, ⟨_, _, hM.id, fun w => by kernel_rfl, fun w hf => rid_any b k r1 e0 r2 w (hf k b hb).kind⟩, ⟨_, _, hM.kind, fun w => by kernel_rfl, fun w hf => rkind_any b k e0 w (hf k b hb).kind⟩,
    ⟨_, _, hM.mask, fun w => by kernel_rfl, fun w _ => (mask_any _ w).mono fun e w' ⟨h, h'⟩ => ⟨h, by subst h'; exact Below.refl _ _⟩⟩, (fun h => by cases h), fun _ => ⟨_, _, hM.idx, fun w => by kernel_rfl, fun w _ => ridx_any b e0 w⟩,
    (fun w T => hM.virt w T), (fun w T => hM.phys w T)⟩

/-- What 'w.reg(r)' gives. -/
def WReg (bw : Nat) (F : Nat → Option Nat) (r : Rg) (w : World) (e : Ending) (w' : World) : Prop :=
  ∃ F', Wd bw F w F' w' ∧ (isReg r = true → ∃ t x, RgM F' r t x ∧ Known F' r ∧ e = .returned (.tuple #[.iface t x, .bool true])) ∧ (isReg r = false → e = .returned (.tuple #[.nilIface, .bool false]))

theorem wreg_any (bw : Nat) (F : Nat → Option Nat) (r : Rg) (hr : r.ok) (w : World) (hW : WorldAt w bw F) :
    Calls Try.prog 22 #[.pointer (some ⟨bw, 0, none⟩), r.val] w (WReg bw F r w) := by
  obtain ⟨v, k, i, s⟩ := r
  have hlt := hW.lt
  have HW := Lib.hid hW
  obtain ⟨r1, r2, r3⟩ := hr
  simp only at r1 r2 r3
  clear hW
  unfold Rg.val
  simp only
  cases v with
  | true =>
    obtain ⟨t, x, hM⟩ := rgM_virt F k i s ⟨r1, r2, r3⟩
    have hv : virtI ⟨true, k, i, s⟩ = .iface t x := by simpa [rgV] using hM.val
    have HV := Lib.hid hv
    have HM := Lib.hid hM
    clear hv hM
    go_enter Try.func22, Try.ntmps22
    go_wp2_with (go_at_call 35; refine (zzvirtual_any k i s _).mono ?_; rintro e w1 ⟨rfl, rfl⟩; rw [HV.out])
    go_ret2
    exact ⟨F, ⟨Ext.refl F, HW.out.below (by repeat (first | exact Below.refl _ _ | assumption | refine Below.drew ?_ | refine below_drewN ?_ _ | refine Below.alloc ?_ (by simp; try omega) _ | refine Below.setCell ?_ (by simp; try omega) _ | refine below_setRow ?_ (by simp; try omega) _)), grown_of_below (by repeat (first | exact Below.refl _ _ | assumption | refine Below.drew ?_ | refine below_drewN ?_ _ | refine Below.alloc ?_ (by simp; try omega) _ | refine Below.setCell ?_ (by simp; try omega) _ | refine below_setRow ?_ (by simp; try omega) _)) _⟩, fun _ => ⟨t, x, HM.out, .inl rfl, rfl⟩, fun h => by cases h⟩
  | false =>
    cases hh : has k i s with
    | true =>
      have hk4 := (has_lt hh).1
      have HH := Lib.hid hh
      clear hh
      go_enter Try.func22, Try.ntmps22
      go_wp2_with (go_at_call 36; refine (physical_any bw F k i s r1 _ (HW.out.below (by repeat (first | exact Below.refl _ _ | assumption | refine Below.drew ?_ | refine below_drewN ?_ _ | refine Below.alloc ?_ (by simp; try omega) _ | refine Below.setCell ?_ (by simp; try omega) _ | refine below_setRow ?_ (by simp; try omega) _)))).mono ?_; rintro e w1 ⟨F', hWd, rfl, hex⟩; obtain ⟨t, x, hM⟩ := rgM_phys F' k i s ⟨r1, r2, r3⟩ HH.out (hex hk4); have HV := Lib.hid hM.val; have HM := Lib.hid hM; have HWd := Lib.hid hWd; have HE := Lib.hid hex; clear hM hWd hex; rw [HV.out])
      have nn : ∀ W : World, (binOp .neq 95 (.iface t x) .nilIface).run Try.prog W = .ok (.bool true) W := fun W => by kernel_rfl
      go_quiet (fail)
      go_wp2
      go_ret2
      have hb0 : Below w.heap.size w (w.alloc (.cells #[.bool false, .int .u8 k, .int .u16 i, .int .u16 s] 24)) := (by repeat (first | exact Below.refl _ _ | assumption | refine Below.drew ?_ | refine below_drewN ?_ _ | refine Below.alloc ?_ (by simp; try omega) _ | refine Below.setCell ?_ (by simp; try omega) _ | refine below_setRow ?_ (by simp; try omega) _))
      exact ⟨F', ⟨HWd.out.ext, HWd.out.here.below (below_drewN (Below.refl _ _) _), World.grownBy.trans (World.grownBy.trans (grown_of_below hb0 _) HWd.out.grown) (grown_of_below (below_drewN (Below.refl _ _) _) _)⟩, fun _ => ⟨t, x, HM.out, .inr ⟨rfl, HH.out, HE.out hk4⟩, rfl⟩, fun h => by rw [show isReg ⟨false, k, i, s⟩ = has k i s from rfl, HH.out] at h; cases h⟩
    | false =>
      have HH := Lib.hid hh
      have hv : ∀ F', rgV F' ⟨false, k, i, s⟩ = .nilIface := fun F' => by simp [rgV, phys_none hh]
      have HV := Lib.hid hv
      have nn : ∀ W : World, (binOp .neq 95 .nilIface .nilIface).run Try.prog W = .ok (.bool false) W := fun W => by kernel_rfl
      clear hh hv
      go_enter Try.func22, Try.ntmps22
      go_wp2_with (go_at_call 36; refine (physical_any bw F k i s r1 _ (HW.out.below (by repeat (first | exact Below.refl _ _ | assumption | refine Below.drew ?_ | refine below_drewN ?_ _ | refine Below.alloc ?_ (by simp; try omega) _ | refine Below.setCell ?_ (by simp; try omega) _ | refine below_setRow ?_ (by simp; try omega) _)))).mono ?_; rintro e w1 ⟨F', hWd, rfl, hex⟩; have HWd := Lib.hid hWd; clear hWd hex; rw [HV.out])
      go_quiet (fail)
      go_wp2
      go_ret2
      have hb0 : Below w.heap.size w (w.alloc (.cells #[.bool false, .int .u8 k, .int .u16 i, .int .u16 s] 24)) := (by repeat (first | exact Below.refl _ _ | assumption | refine Below.drew ?_ | refine below_drewN ?_ _ | refine Below.alloc ?_ (by simp; try omega) _ | refine Below.setCell ?_ (by simp; try omega) _ | refine below_setRow ?_ (by simp; try omega) _))
      exact ⟨F', ⟨HWd.out.ext, HWd.out.here.below (below_drewN (Below.refl _ _) _), World.grownBy.trans (World.grownBy.trans (grown_of_below hb0 _) HWd.out.grown) (grown_of_below (below_drewN (Below.refl _ _) _) _)⟩, (fun h => by rw [show isReg ⟨false, k, i, s⟩ = has k i s from rfl, HH.out] at h; cases h), fun _ => rfl⟩

/-! ### told again -/
theorem toVirtual_any (F : Nat → Option Nat) (r : Rg) (t : Nat) (x : Value) (hM : RgM F r t x) (w : World) :
    Calls Try.prog 37 #[.iface t x] w fun e w' => e = .returned (if r.virt then .iface t x else .nilIface) ∧ w = w' := by
  have hV := hM.toV
  obtain ⟨v, k, i, s⟩ := r
  clear hM
  cases v <;> simp only [Bool.false_eq_true, if_true, if_false] at hV ⊢
  all_goals
    go_enter Try.func37, Try.ntmps37
    go_wp2
    go_ret
    exact ⟨rfl, rfl⟩
theorem toPhysical_any (F : Nat → Option Nat) (r : Rg) (t : Nat) (x : Value) (hM : RgM F r t x) (w : World) :
    Calls Try.prog 38 #[.iface t x] w fun e w' => e = .returned (if r.virt then .nilIface else .iface t x) ∧ w = w' := by
  have hP := hM.toP
  obtain ⟨v, k, i, s⟩ := r
  clear hM
  cases v <;> simp only [Bool.false_eq_true, if_true, if_false, Bool.not_true, Bool.not_false] at hP ⊢
  all_goals
    go_enter Try.func38, Try.ntmps38
    go_wp2
    go_ret
    exact ⟨rfl, rfl⟩

set_option maxHeartbeats 1000000 in
theorem plainReg_any (F : Nat → Option Nat) (r : Rg) (t : Nat) (x : Value) (hM : RgM F r t x) (w : World) (hf : FamsAt w F) :
    Calls Try.prog 26 #[.iface t x] w fun e w' => e = .returned r.val ∧ Below w.heap.size w w' := by
  have nv : ∀ W, (binOp .neq 66 (.iface t x) .nilIface).run Try.prog W = .ok (.bool true) W := fun W => by kernel_rfl
  have n0 : ∀ W, (binOp .neq 66 .nilIface .nilIface).run Try.prog W = .ok (.bool false) W := fun W => by kernel_rfl
  have HM := Lib.hid hM
  have hB : Below w.heap.size w (w.alloc (.cells #[.bool false, .int .u8 0, .int .u16 0, .int .u16 0] 24)) := (by repeat (first | exact Below.refl _ _ | assumption | refine Below.drew ?_ | refine below_drewN ?_ _ | refine Below.alloc ?_ (by simp; try omega) _ | refine Below.setCell ?_ (by simp; try omega) _ | refine below_setRow ?_ (by simp; try omega) _))
  have hf0 := hf.below hB
  have HB := Lib.hid (heap_alloc_new w (.cells #[.bool false, .int .u8 0, .int .u16 0, .int .u16 0] 24))
  obtain ⟨f1, a1, m1, c1, k1⟩ := hM.kind
  obtain ⟨f2, a2, m2, c2, k2⟩ := hM.mask
  have K1 := Lib.hid k1
  have K2 := Lib.hid k2
  have hv := hM.vidx
  have hp := hM.pidx
  clear k1 k2 hM hf
  unfold Rg.val
  cases hvv : r.virt with
  | true =>
    obtain ⟨f3, a3, m3, c3, k3⟩ := hv hvv
    have K3 := Lib.hid k3
    have HV := Lib.hid hvv
    clear hv hp k3 hvv
    go_enter Try.func26, Try.ntmps26
    go_wp2_with (first | (go_at_call 37; refine (toVirtual_any F r t x HM.out _).mono ?_; rintro e w1 ⟨rfl, rfl⟩; simp only [HV.out, if_true]) | ((with_reducible refine (K1.out _ (by first | assumption | exact FamsAt.below (by assumption) (by repeat (first | exact Below.refl _ _ | assumption | refine Below.drew ?_ | refine below_drewN ?_ _ | refine Below.alloc ?_ (by simp; try omega) _ | refine Below.setCell ?_ (by simp; try omega) _ | refine below_setRow ?_ (by simp; try omega) _)))).mono ?_); rintro e w1 ⟨rfl, hb1⟩; have hf1 := FamsAt.below (by first | assumption | exact FamsAt.below (by assumption) (by repeat (first | exact Below.refl _ _ | assumption | refine Below.drew ?_ | refine below_drewN ?_ _ | refine Below.alloc ?_ (by simp; try omega) _ | refine Below.setCell ?_ (by simp; try omega) _ | refine below_setRow ?_ (by simp; try omega) _))) hb1; have hB := (show Below w.heap.size w _ from below_after (by repeat (first | exact Below.refl _ _ | assumption | refine Below.drew ?_ | refine below_drewN ?_ _ | refine Below.alloc ?_ (by simp; try omega) _ | refine Below.setCell ?_ (by simp; try omega) _ | refine below_setRow ?_ (by simp; try omega) _)) hb1); try (have HB := Lib.hid (blk_keep hb1 HB.out))) | ((with_reducible refine (K2.out _ (by first | assumption | exact FamsAt.below (by assumption) (by repeat (first | exact Below.refl _ _ | assumption | refine Below.drew ?_ | refine below_drewN ?_ _ | refine Below.alloc ?_ (by simp; try omega) _ | refine Below.setCell ?_ (by simp; try omega) _ | refine below_setRow ?_ (by simp; try omega) _)))).mono ?_); rintro e w1 ⟨rfl, hb1⟩; have hf1 := FamsAt.below (by first | assumption | exact FamsAt.below (by assumption) (by repeat (first | exact Below.refl _ _ | assumption | refine Below.drew ?_ | refine below_drewN ?_ _ | refine Below.alloc ?_ (by simp; try omega) _ | refine Below.setCell ?_ (by simp; try omega) _ | refine below_setRow ?_ (by simp; try omega) _))) hb1; have hB := (show Below w.heap.size w _ from below_after (by repeat (first | exact Below.refl _ _ | assumption | refine Below.drew ?_ | refine below_drewN ?_ _ | refine Below.alloc ?_ (by simp; try omega) _ | refine Below.setCell ?_ (by simp; try omega) _ | refine below_setRow ?_ (by simp; try omega) _)) hb1); try (have HB := Lib.hid (blk_keep hb1 HB.out))) | ((with_reducible refine (K3.out _ (by first | assumption | exact FamsAt.below (by assumption) (by repeat (first | exact Below.refl _ _ | assumption | refine Below.drew ?_ | refine below_drewN ?_ _ | refine Below.alloc ?_ (by simp; try omega) _ | refine Below.setCell ?_ (by simp; try omega) _ | refine below_setRow ?_ (by simp; try omega) _)))).mono ?_); rintro e w1 ⟨rfl, hb1⟩; have hf1 := FamsAt.below (by first | assumption | exact FamsAt.below (by assumption) (by repeat (first | exact Below.refl _ _ | assumption | refine Below.drew ?_ | refine below_drewN ?_ _ | refine Below.alloc ?_ (by simp; try omega) _ | refine Below.setCell ?_ (by simp; try omega) _ | refine below_setRow ?_ (by simp; try omega) _))) hb1; have hB := (show Below w.heap.size w _ from below_after (by repeat (first | exact Below.refl _ _ | assumption | refine Below.drew ?_ | refine below_drewN ?_ _ | refine Below.alloc ?_ (by simp; try omega) _ | refine Below.setCell ?_ (by simp; try omega) _ | refine below_setRow ?_ (by simp; try omega) _)) hb1); try (have HB := Lib.hid (blk_keep hb1 HB.out))) | (refine wpList_store_row rfl 24 (.tmp 2) (.tmp 15) rfl w.heap.size #[.bool true, .int .u8 r.kind, .int .u16 r.idx, .int .u16 r.spec] rfl rfl 24 _ HB.out (by kernel_rfl) rfl (by simp [Value.oneCell']) ?_; have HB := Lib.hid (setRow_heap _ _ _ #[.bool true, .int .u8 r.kind, .int .u16 r.idx, .int .u16 r.spec] _ _ HB.out)))
    refine bodyPost_ret (results_cell_row rfl _ _ w.heap.size _ _ _ _ rfl HB.out Try.underlying24 rfl (by kernel_rfl)) rfl (by exact ⟨rfl, (by repeat (first | exact Below.refl _ _ | assumption | refine Below.drew ?_ | refine below_drewN ?_ _ | refine Below.alloc ?_ (by simp; try omega) _ | refine Below.setCell ?_ (by simp; try omega) _ | refine below_setRow ?_ (by simp; try omega) _))⟩)
  | false =>
    obtain ⟨f3, a3, m3, c3, k3⟩ := hp hvv
    have K3 := Lib.hid k3
    have HV := Lib.hid hvv
    clear hv hp k3 hvv
    go_enter Try.func26, Try.ntmps26
    go_wp2_with (first | (go_at_call 37; refine (toVirtual_any F r t x HM.out _).mono ?_; rintro e w1 ⟨rfl, rfl⟩; simp only [HV.out, Bool.false_eq_true, if_false]) | (go_at_call 38; refine (toPhysical_any F r t x HM.out _).mono ?_; rintro e w1 ⟨rfl, rfl⟩; simp only [HV.out, Bool.false_eq_true, if_false]) | ((with_reducible refine (K1.out _ (by first | assumption | exact FamsAt.below (by assumption) (by repeat (first | exact Below.refl _ _ | assumption | refine Below.drew ?_ | refine below_drewN ?_ _ | refine Below.alloc ?_ (by simp; try omega) _ | refine Below.setCell ?_ (by simp; try omega) _ | refine below_setRow ?_ (by simp; try omega) _)))).mono ?_); rintro e w1 ⟨rfl, hb1⟩; have hf1 := FamsAt.below (by first | assumption | exact FamsAt.below (by assumption) (by repeat (first | exact Below.refl _ _ | assumption | refine Below.drew ?_ | refine below_drewN ?_ _ | refine Below.alloc ?_ (by simp; try omega) _ | refine Below.setCell ?_ (by simp; try omega) _ | refine below_setRow ?_ (by simp; try omega) _))) hb1; have hB := (show Below w.heap.size w _ from below_after (by repeat (first | exact Below.refl _ _ | assumption | refine Below.drew ?_ | refine below_drewN ?_ _ | refine Below.alloc ?_ (by simp; try omega) _ | refine Below.setCell ?_ (by simp; try omega) _ | refine below_setRow ?_ (by simp; try omega) _)) hb1); try (have HB := Lib.hid (blk_keep hb1 HB.out))) | ((with_reducible refine (K2.out _ (by first | assumption | exact FamsAt.below (by assumption) (by repeat (first | exact Below.refl _ _ | assumption | refine Below.drew ?_ | refine below_drewN ?_ _ | refine Below.alloc ?_ (by simp; try omega) _ | refine Below.setCell ?_ (by simp; try omega) _ | refine below_setRow ?_ (by simp; try omega) _)))).mono ?_); rintro e w1 ⟨rfl, hb1⟩; have hf1 := FamsAt.below (by first | assumption | exact FamsAt.below (by assumption) (by repeat (first | exact Below.refl _ _ | assumption | refine Below.drew ?_ | refine below_drewN ?_ _ | refine Below.alloc ?_ (by simp; try omega) _ | refine Below.setCell ?_ (by simp; try omega) _ | refine below_setRow ?_ (by simp; try omega) _))) hb1; have hB := (show Below w.heap.size w _ from below_after (by repeat (first | exact Below.refl _ _ | assumption | refine Below.drew ?_ | refine below_drewN ?_ _ | refine Below.alloc ?_ (by simp; try omega) _ | refine Below.setCell ?_ (by simp; try omega) _ | refine below_setRow ?_ (by simp; try omega) _)) hb1); try (have HB := Lib.hid (blk_keep hb1 HB.out))) | ((with_reducible refine (K3.out _ (by first | assumption | exact FamsAt.below (by assumption) (by repeat (first | exact Below.refl _ _ | assumption | refine Below.drew ?_ | refine below_drewN ?_ _ | refine Below.alloc ?_ (by simp; try omega) _ | refine Below.setCell ?_ (by simp; try omega) _ | refine below_setRow ?_ (by simp; try omega) _)))).mono ?_); rintro e w1 ⟨rfl, hb1⟩; have hf1 := FamsAt.below (by first | assumption | exact FamsAt.below (by assumption) (by repeat (first | exact Below.refl _ _ | assumption | refine Below.drew ?_ | refine below_drewN ?_ _ | refine Below.alloc ?_ (by simp; try omega) _ | refine Below.setCell ?_ (by simp; try omega) _ | refine below_setRow ?_ (by simp; try omega) _))) hb1; have hB := (show Below w.heap.size w _ from below_after (by repeat (first | exact Below.refl _ _ | assumption | refine Below.drew ?_ | refine below_drewN ?_ _ | refine Below.alloc ?_ (by simp; try omega) _ | refine Below.setCell ?_ (by simp; try omega) _ | refine below_setRow ?_ (by simp; try omega) _)) hb1); try (have HB := Lib.hid (blk_keep hb1 HB.out))) | (refine wpList_store_row rfl 24 (.tmp 2) (.tmp 24) rfl w.heap.size #[.bool false, .int .u8 r.kind, .int .u16 r.idx, .int .u16 r.spec] rfl rfl 24 _ HB.out (by kernel_rfl) rfl (by simp [Value.oneCell']) ?_; have HB := Lib.hid (setRow_heap _ _ _ #[.bool false, .int .u8 r.kind, .int .u16 r.idx, .int .u16 r.spec] _ _ HB.out)))
    refine bodyPost_ret (results_cell_row rfl _ _ w.heap.size _ _ _ _ rfl HB.out Try.underlying24 rfl (by kernel_rfl)) rfl (by exact ⟨rfl, (by repeat (first | exact Below.refl _ _ | assumption | refine Below.drew ?_ | refine below_drewN ?_ _ | refine Below.alloc ?_ (by simp; try omega) _ | refine Below.setCell ?_ (by simp; try omega) _ | refine below_setRow ?_ (by simp; try omega) _))⟩)
end Go.Proofs.Ytomladkeanieeaa
