/- The families whole: FamilyOfKind at each kind. -/
import Derived.Test.YtomladkeanieeaaFam
namespace Go.Proofs.Ytomladkeanieeaa
open Go.RowKit
set_option linter.unusedVariables false
set_option linter.unusedSimpArgs false

set_option maxRecDepth 100000 in
set_option maxHeartbeats 4000000 in
theorem family_0 (w : World) : Calls Try.prog 45 #[.int .u8 (0 : Nat)] w fun e w' =>
    e = .returned (.pointer (some ⟨w.heap.size, 0, none⟩)) ∧ FamPart w' w.heap.size w.heap.size 0 (fam 0) ∧ Below w.heap.size w w' := by
  refine family_start 0 w rfl (fun a w h => ?_)
  refine wp_block ?_
  refine seq_row (test_row true (by decide) h (by rw [Try.ntmps45]; decide)) (fun a w ⟨h, ht⟩ => ?_)
  refine wp_cond_true ht ?_
  iterate 3 ((refine seq_row (define_row _ rfl rfl rfl rfl rfl h ?_) (fun a w h => ?_)); · rw [Try.ntmps45]; decide)
  refine define_row _ rfl rfl rfl rfl rfl h ?_ _ (fun a w h => ?_)
  · rw [Try.ntmps45]; decide
  exact fam_end rfl h rfl (by rw [Try.ntmps45]; decide) (by rw [Try.ntmps45]; decide)

set_option maxRecDepth 100000 in
set_option maxHeartbeats 4000000 in
theorem family_1 (w : World) : Calls Try.prog 45 #[.int .u8 (1 : Nat)] w fun e w' =>
    e = .returned (.pointer (some ⟨w.heap.size, 0, none⟩)) ∧ FamPart w' w.heap.size w.heap.size 1 (fam 1) ∧ Below w.heap.size w w' := by
  refine family_start 1 w rfl (fun a w h => ?_)
  refine wp_block ?_
  refine seq_row (test_row false (by decide) h (by rw [Try.ntmps45]; decide)) (fun a w ⟨h, ht⟩ => ?_)
  refine wp_cond_false ht ?_
  refine seq_row (test_row true (by decide) h (by rw [Try.ntmps45]; decide)) (fun a w ⟨h, ht⟩ => ?_)
  refine wp_cond_true ht ?_
  iterate 67 ((first | (refine seq_row (fam_row _ rfl rfl rfl rfl rfl (mk1 _) (fun args w => by kernel_rfl) h ?_) (fun a w h => ?_)) | (refine seq_row (flag_row _ rfl rfl rfl rfl rfl (by decide) (mk1 _) (fun args w => by kernel_rfl) h ?_) (fun a w h => ?_))); · rw [Try.ntmps45]; decide)
  refine fam_row _ rfl rfl rfl rfl rfl (mk1 _) (fun args w => by kernel_rfl) h ?_ _ (fun a w h => ?_)
  · rw [Try.ntmps45]; decide
  exact fam_end rfl h rfl (by rw [Try.ntmps45]; decide) (by rw [Try.ntmps45]; decide)

set_option maxRecDepth 100000 in
set_option maxHeartbeats 4000000 in
theorem family_2 (w : World) : Calls Try.prog 45 #[.int .u8 (2 : Nat)] w fun e w' =>
    e = .returned (.pointer (some ⟨w.heap.size, 0, none⟩)) ∧ FamPart w' w.heap.size w.heap.size 2 (fam 2) ∧ Below w.heap.size w w' := by
  refine family_start 2 w rfl (fun a w h => ?_)
  refine wp_block ?_
  refine seq_row (test_row false (by decide) h (by rw [Try.ntmps45]; decide)) (fun a w ⟨h, ht⟩ => ?_)
  refine wp_cond_false ht ?_
  refine seq_row (test_row false (by decide) h (by rw [Try.ntmps45]; decide)) (fun a w ⟨h, ht⟩ => ?_)
  refine wp_cond_false ht ?_
  refine seq_row (test_row true (by decide) h (by rw [Try.ntmps45]; decide)) (fun a w ⟨h, ht⟩ => ?_)
  refine wp_cond_true ht ?_
  iterate 95 ((refine seq_row (fam_row _ rfl rfl rfl rfl rfl (mk2 _) (fun args w => by kernel_rfl) h ?_) (fun a w h => ?_)); · rw [Try.ntmps45]; decide)
  refine fam_row _ rfl rfl rfl rfl rfl (mk2 _) (fun args w => by kernel_rfl) h ?_ _ (fun a w h => ?_)
  · rw [Try.ntmps45]; decide
  exact fam_end rfl h rfl (by rw [Try.ntmps45]; decide) (by rw [Try.ntmps45]; decide)

set_option maxRecDepth 100000 in
set_option maxHeartbeats 4000000 in
theorem family_3 (w : World) : Calls Try.prog 45 #[.int .u8 (3 : Nat)] w fun e w' =>
    e = .returned (.pointer (some ⟨w.heap.size, 0, none⟩)) ∧ FamPart w' w.heap.size w.heap.size 3 (fam 3) ∧ Below w.heap.size w w' := by
  refine family_start 3 w rfl (fun a w h => ?_)
  refine wp_block ?_
  refine seq_row (test_row false (by decide) h (by rw [Try.ntmps45]; decide)) (fun a w ⟨h, ht⟩ => ?_)
  refine wp_cond_false ht ?_
  refine seq_row (test_row false (by decide) h (by rw [Try.ntmps45]; decide)) (fun a w ⟨h, ht⟩ => ?_)
  refine wp_cond_false ht ?_
  refine seq_row (test_row false (by decide) h (by rw [Try.ntmps45]; decide)) (fun a w ⟨h, ht⟩ => ?_)
  refine wp_cond_false ht ?_
  refine seq_row (test_row true (by decide) h (by rw [Try.ntmps45]; decide)) (fun a w ⟨h, ht⟩ => ?_)
  refine wp_cond_true ht ?_
  iterate 7 ((first | (refine seq_row (fam_row _ rfl rfl rfl rfl rfl (mk3 _) (fun args w => by kernel_rfl) h ?_) (fun a w h => ?_)) | (refine seq_row (flag_row _ rfl rfl rfl rfl rfl (by decide) (mk3 _) (fun args w => by kernel_rfl) h ?_) (fun a w h => ?_))); · rw [Try.ntmps45]; decide)
  refine fam_row _ rfl rfl rfl rfl rfl (mk3 _) (fun args w => by kernel_rfl) h ?_ _ (fun a w h => ?_)
  · rw [Try.ntmps45]; decide
  exact fam_end rfl h rfl (by rw [Try.ntmps45]; decide) (by rw [Try.ntmps45]; decide)

set_option maxHeartbeats 4000000 in
theorem family_none (k : Nat) (hk : 4 ≤ k) (w : World) : Calls Try.prog 45 #[.int .u8 k] w fun e w' =>
    e = .returned (.pointer none) ∧ Below w.heap.size w w' := by
  refine family_start k w rfl (fun a w h => ?_)
  refine wp_block ?_
  refine seq_row (test_row false (by simp; omega) h (by rw [Try.ntmps45]; decide)) (fun a w ⟨h, ht⟩ => ?_)
  refine wp_cond_false ht ?_
  refine seq_row (test_row false (by simp; omega) h (by rw [Try.ntmps45]; decide)) (fun a w ⟨h, ht⟩ => ?_)
  refine wp_cond_false ht ?_
  refine seq_row (test_row false (by simp; omega) h (by rw [Try.ntmps45]; decide)) (fun a w ⟨h, ht⟩ => ?_)
  refine wp_cond_false ht ?_
  refine seq_row (test_row false (by simp; omega) h (by rw [Try.ntmps45]; decide)) (fun a w ⟨h, ht⟩ => ?_)
  refine wp_cond_false ht ?_
  have hs := h.size
  refine seq_row (R := fun a' w' => a'.tmps.getD 2 undef = .pointer none ∧ a'.defers = [] ∧ w' = w) (fun Q hQ => ?_) (fun a' w' hr => ?_)
  · refine wp_region_list ?_
    refine wpl_assign _ rfl rfl ?_
    refine wpList_nil (hQ _ _ ⟨?_, h.defers, rfl⟩)
    rw [put_get _ (by rw [hs, Try.ntmps45]; decide), eval_const]
  · obtain ⟨h1, h2, rfl⟩ := hr
    refine wp_ret ⟨h2, _, results_tmp (t := 2) rfl _ _ _, ?_⟩
    rw [h1]
    exact ⟨rfl, h.below⟩
end Go.Proofs.Ytomladkeanieeaa
