/- Looking a register up in its family: the first with the index and the spec. -/
import Derived.Test.YtomladkeanieeaaKinds
namespace Go.Proofs.Ytomladkeanieeaa
open Go.RowKit
set_option linter.unusedVariables false
set_option linter.unusedSimpArgs false

/-- Which function a method's name leads to, of a family's register. -/
structure EntM (b : Nat) (e0 : Ent) (t : Nat) (x : Value) : Prop where
  idx : ∀ w, (method 276 t x "PhysicalIndex").run Try.prog w = .ok (99, entV b e0) w
  mask : ∀ w, (method 276 t x "Mask").run Try.prog w = .ok (54, .int .u16 (e0.spec : Nat)) w
  kind : ∀ w, (method 276 t x "Kind").run Try.prog w = .ok (98, entV b e0) w
  id : ∀ w, (method 276 t x "ID").run Try.prog w = .ok (96, entV b e0) w
  virt : ∀ w T, (Instr.typeAssert (.iface t x) T 66 true).run Try.prog w = .ok (.tuple #[.nilIface, .bool false]) w
  phys : ∀ w T, (Instr.typeAssert (.iface t x) T 95 true).run Try.prog w = .ok (.tuple #[.iface t x, .bool true]) w
theorem entM (k b : Nat) (e0 : Ent) : ∃ t x, entI k b e0 = .iface t x ∧ EntM b e0 t x := by
  match k with
  | 1 => exact ⟨_, _, rfl, fun w => by unfold entV; kernel_rfl, fun w => by unfold entV; kernel_rfl, fun w => by unfold entV; kernel_rfl, fun w => by unfold entV; kernel_rfl, fun w T => run_typeAssert_lacksB Try.underlying66 (by kernel_rfl) (by kernel_rfl) _ T w, fun w T => run_typeAssert_hasB Try.underlying95 (by kernel_rfl) _ T w⟩
  | 2 => exact ⟨_, _, rfl, fun w => by unfold entV; kernel_rfl, fun w => by unfold entV; kernel_rfl, fun w => by unfold entV; kernel_rfl, fun w => by unfold entV; kernel_rfl, fun w T => run_typeAssert_lacksB Try.underlying66 (by kernel_rfl) (by kernel_rfl) _ T w, fun w T => run_typeAssert_hasB Try.underlying95 (by kernel_rfl) _ T w⟩
  | 3 => exact ⟨_, _, rfl, fun w => by unfold entV; kernel_rfl, fun w => by unfold entV; kernel_rfl, fun w => by unfold entV; kernel_rfl, fun w => by unfold entV; kernel_rfl, fun w T => run_typeAssert_lacksB Try.underlying66 (by kernel_rfl) (by kernel_rfl) _ T w, fun w T => run_typeAssert_hasB Try.underlying95 (by kernel_rfl) _ T w⟩
  | 0 => exact ⟨_, _, rfl, fun w => by unfold entV; kernel_rfl, fun w => by unfold entV; kernel_rfl, fun w => by unfold entV; kernel_rfl, fun w => by unfold entV; kernel_rfl, fun w T => run_typeAssert_lacksB Try.underlying66 (by kernel_rfl) (by kernel_rfl) _ T w, fun w T => run_typeAssert_hasB Try.underlying95 (by kernel_rfl) _ T w⟩
  | n + 4 => exact ⟨_, _, rfl, fun w => by unfold entV; kernel_rfl, fun w => by unfold entV; kernel_rfl, fun w => by unfold entV; kernel_rfl, fun w => by unfold entV; kernel_rfl, fun w T => run_typeAssert_lacksB Try.underlying66 (by kernel_rfl) (by kernel_rfl) _ T w, fun w T => run_typeAssert_hasB Try.underlying95 (by kernel_rfl) _ T w⟩

/-- What Lookup gives. -/
def found (k b i s : Nat) : Value := match phys k i s with | some e0 => entI k b e0 | none => .nilIface
/-- No register among the first n is the one that is sought. -/
def NoneYet (k i s n : Nat) : Prop := ∀ e0 ∈ (fam k).take n, (e0.idx == i && e0.spec == s) = false
theorem NoneYet.next {k i s n : Nat} (h : NoneYet k i s n) {e0 : Ent} (he : (fam k)[n]? = some e0) (hne : (e0.idx == i && e0.spec == s) = false) : NoneYet k i s (n + 1) := by
  intro x hx
  rw [← take_next he, List.mem_append] at hx
  rcases hx with hx | hx
  · exact h x hx
  · simp at hx; subst hx; exact hne
theorem NoneYet.stop {k b i s : Nat} (h : NoneYet k i s (fam k).length) : found k b i s = .nilIface := by
  have : phys k i s = none := by
    unfold phys
    rw [List.find?_eq_none]
    intro x hx
    rw [h x (by rw [List.take_of_length_le (by omega)]; exact hx)]
    simp
  unfold found
  rw [this]
theorem NoneYet.hit {k b i s n : Nat} (h : NoneYet k i s n) {e0 : Ent} (he : (fam k)[n]? = some e0) (hm : (e0.idx == i && e0.spec == s) = true) : found k b i s = entI k b e0 := by
  have hp : phys k i s = some e0 := by
    obtain ⟨hn, h1⟩ := List.getElem?_eq_some_iff.1 he
    unfold phys
    have hl : fam k = (fam k).take n ++ e0 :: (fam k).drop (n + 1) := by
      rw [← h1, List.getElem_cons_drop, List.take_append_drop]
    rw [hl, List.find?_append]
    have h0 : ((fam k).take n).find? (fun e => e.idx == i && e.spec == s) = none := by
      rw [List.find?_eq_none]
      intro x hx
      rw [h x hx]
      simp
    rw [h0]
    simp only [Option.none_or, List.find?_cons, hm]
  unfold found
  rw [hp]

theorem FamAt.cells {w : World} {k b : Nat} (h : FamAt w k b) (hn : 0 < (fam k).length) : ∃ g c, w.cell? ⟨b, 1, none⟩ = some (.slice (some ⟨g, 0, none⟩) (fam k).length c) ∧ (∀ n e0, (fam k)[n]? = some e0 → w.cell? ⟨g, n, none⟩ = some (entI k b e0)) := by
  obtain ⟨_, v, h1, h2⟩ := h
  obtain ⟨g, c, rfl, _⟩ := own_form h2 hn
  refine ⟨g, c, by simp [World.cell?, h1], fun n e0 he => own_cell h2 n _ (by simp [he])⟩
theorem fam_pos {k : Nat} (hk : k < 4) : 0 < (fam k).length := by
  match k, hk with
  | 0, _ => decide
  | 1, _ => decide
  | 2, _ => decide
  | 3, _ => decide

theorem lookup_any (k b i s : Nat) (hk : k < 4) (w : World) (hf : FamAt w k b) :
    Calls Try.prog 46 #[.pointer (some ⟨b, 0, none⟩), .int .u16 i, .int .u16 s] w fun e w' => e = .returned (found k b i s) ∧ Below w.heap.size w w' := by
  obtain ⟨g, c, hc, hcell⟩ := hf.cells (fam_pos hk)
  have hlen := fam_len k
  have hlt : b < w.heap.size := World.block_lt_of_cell? w _ hc
  obtain ⟨L, hL⟩ : ∃ L, (fam k).length = L := ⟨_, rfl⟩
  have HL := Lib.hid hL
  have HC := Lib.hid hcell
  rw [hL] at hc hlen
  clear hL hcell hf
  go_enter Try.func46, Try.ntmps46
  go_wp2
  go_loopw [14] (fun n wr => ∃ m : Nat, m ≤ L ∧ n = .int .i64 m ∧ NoneYet k i s m ∧ Below w.heap.size w wr) (fun n _ => L - (intOf n).toNat)
  case atStart => exact ⟨0, by omega, rfl, (fun x hx => by simp at hx), Below.refl _ _⟩
  case round =>
    obtain ⟨m, hm, rfl, hno, hb⟩ := hrel
    by_cases hlt : m < L
    · obtain ⟨e0, he⟩ : ∃ e0, (fam k)[m]? = some e0 := ⟨_, List.getElem?_eq_getElem (by rw [HL.out]; exact hlt)⟩
      have hc1 := cell_keep hb (HC.out m e0 he)
      obtain ⟨t, x, hx, hM⟩ := entM k b e0
      rw [hx] at hc1
      have HX := Lib.hid hx
      have HE := Lib.hid he
      have f1 := hM.idx
      have f2 := hM.mask
      clear hx he hM
      by_cases h1 : e0.idx = i
      · by_cases h2 : e0.spec = s
        · have HM := Lib.hid (hno.hit (b := b) HE.out (by simp [h1, h2]))
          have q1 : ((e0.idx : Int) == (i : Int)) = true := by simp [h1]
          have q2 : ((e0.spec : Int) == (s : Int)) = true := by simp [h2]
          clear h1 h2 hno
          go_wp2_with (first | (go_at_call 99; refine (ridx_any b e0 _).mono ?_; rintro e w1 ⟨rfl, hb1⟩) | (go_at_call 54; refine (mask_any _ _).mono ?_; rintro e w2 ⟨rfl, rfl⟩))
          go_ret
          exact ⟨by rw [HM.out, HX.out]; rfl, below_after hb hb1⟩
        · have HM := Lib.hid (hno.next HE.out (by simp [h2]))
          have q1 : ((e0.idx : Int) == (i : Int)) = true := by simp [h1]
          have q2 : ((e0.spec : Int) == (s : Int)) = false := by simp; omega
          clear h1 h2 hno
          go_wp2_with (first | (go_at_call 99; refine (ridx_any b e0 _).mono ?_; rintro e w1 ⟨rfl, hb1⟩) | (go_at_call 54; refine (mask_any _ _).mono ?_; rintro e w2 ⟨rfl, rfl⟩))
          go_roundw
          case rel => exact ⟨m + 1, by omega, by go_num, HM.out, below_after hb hb1⟩
          case measure => simp [intOf]; omega
      · have HM := Lib.hid (hno.next HE.out (by simp [h1]))
        have q1 : ((e0.idx : Int) == (i : Int)) = false := by simp; omega
        clear h1 hno
        go_wp2_with (first | (go_at_call 99; refine (ridx_any b e0 _).mono ?_; rintro e w1 ⟨rfl, hb1⟩) | (go_at_call 54; refine (mask_any _ _).mono ?_; rintro e w2 ⟨rfl, rfl⟩))
        go_roundw
        case rel => exact ⟨m + 1, by omega, by go_num, HM.out, below_after hb hb1⟩
        case measure => simp [intOf]; omega
    · obtain rfl : m = L := by omega
      have HM := Lib.hid (NoneYet.stop (b := b) (by rw [HL.out]; exact hno))
      clear hno
      go_wp2
      go_ret
      exact ⟨by rw [HM.out]; rfl, hb⟩
end Go.Proofs.Ytomladkeanieeaa
