/- A call's own world of families: registers made of plain data, and told again. -/
import Derived.Test.YtomladkeanieeaaLook
namespace Go.Proofs.Ytomladkeanieeaa
open Go.RowKit
set_option linter.unusedVariables false
set_option linter.unusedSimpArgs false

theorem family_any (k : Nat) (hk : k < 4) (w : World) : Calls Try.prog 45 #[.int .u8 k] w fun e w' =>
    e = .returned (.pointer (some ⟨w.heap.size, 0, none⟩)) ∧ FamPart w' w.heap.size w.heap.size k (fam k) ∧ Below w.heap.size w w' := by
  match k, hk with
  | 0, _ => exact family_0 w
  | 1, _ => exact family_1 w
  | 2, _ => exact family_2 w
  | 3, _ => exact family_3 w

/-- A family's place in the world: nil, or where it lies. -/
def fp (F : Nat → Option Nat) (k : Nat) : Value := .pointer ((F k).map fun b => ⟨b, 0, none⟩)
def famCells (F : Nat → Option Nat) : Array Value := #[fp F 0, fp F 1, fp F 2, fp F 3]
/-- The world of one call: block bw holds where the families lie, and they lie there. -/
def WorldAt (w : World) (bw : Nat) (F : Nat → Option Nat) : Prop :=
  w.heap[bw]? = some (.cells (famCells F) 91 (0, 0)) ∧ FamsAt w F ∧ ∀ k b, F k = some b → k < 4
def Ext (F F' : Nat → Option Nat) : Prop := ∀ k b, F k = some b → F' k = some b
theorem Ext.refl (F : Nat → Option Nat) : Ext F F := fun _ _ h => h
theorem Ext.trans {F G H : Nat → Option Nat} (h : Ext F G) (k : Ext G H) : Ext F H := fun i b hb => k i b (h i b hb)
def NoFam : Nat → Option Nat := fun _ => none
def setFam (F : Nat → Option Nat) (k b : Nat) : Nat → Option Nat := fun j => if j = k then some b else F j
theorem Ext.set {F : Nat → Option Nat} {k b : Nat} (h : F k = none) : Ext F (setFam F k b) := by
  intro j c hj
  unfold setFam
  by_cases e : j = k
  · subst e; rw [h] at hj; cases hj
  · rw [if_neg e]; exact hj
theorem famCells_set (F : Nat → Option Nat) (k b : Nat) (hk : k < 4) : (famCells F).setIfInBounds k (.pointer (some ⟨b, 0, none⟩)) = famCells (setFam F k b) := by
  match k, hk with
  | 0, _ => simp [famCells, fp, setFam]
  | 1, _ => simp [famCells, fp, setFam]
  | 2, _ => simp [famCells, fp, setFam]
  | 3, _ => simp [famCells, fp, setFam]
theorem famCells_get (F : Nat → Option Nat) (k : Nat) (hk : k < 4) : (famCells F)[k]? = some (fp F k) := by
  match k, hk with
  | 0, _ => rfl
  | 1, _ => rfl
  | 2, _ => rfl
  | 3, _ => rfl
theorem WorldAt.cell {w : World} {bw : Nat} {F : Nat → Option Nat} (h : WorldAt w bw F) {k : Nat} (hk : k < 4) : w.cell? ⟨bw, k, none⟩ = some (fp F k) := by
  simp [World.cell?, h.1, famCells_get F k hk]
theorem WorldAt.lt {w : World} {bw : Nat} {F : Nat → Option Nat} (h : WorldAt w bw F) : bw < w.heap.size := (Array.getElem?_eq_some_iff.1 h.1).1
theorem WorldAt.below {w w' : World} {bw : Nat} {F : Nat → Option Nat} (h : WorldAt w bw F) (hb : Below w.heap.size w w') : WorldAt w' bw F :=
  ⟨by rw [hb.block bw h.lt]; exact h.1, h.2.1.below hb, h.2.2⟩
theorem WorldAt.known {w : World} {bw : Nat} {F : Nat → Option Nat} (h : WorldAt w bw F) {k b : Nat} (hk : F k = some b) : FamAt w k b := h.2.1 k b hk

/-- What physical gives. -/
theorem rgV_phys (F : Nat → Option Nat) (k i s : Nat) : rgV F ⟨false, k, i, s⟩ = found k ((F k).getD 0) i s := by
  simp only [rgV, found]
  rfl
theorem found_none {k b i s : Nat} (hk : 4 ≤ k) : found k b i s = .nilIface := by
  obtain ⟨m, rfl⟩ : ∃ m, k = m + 4 := ⟨k - 4, by omega⟩
  simp [found, phys, fam]

/-- A family that was just made, put into its place. -/
theorem WorldAt.put {w w1 : World} {bw k : Nat} {F : Nat → Option Nat} (h : WorldAt w bw F) (hk : k < 4) (hn : F k = none) (hb : Below w.heap.size w w1) (hp : FamPart w1 w.heap.size w.heap.size k (fam k)) :
    WorldAt (w1.setCell ⟨bw, k, none⟩ (.pointer (some ⟨w.heap.size, 0, none⟩))) bw (setFam F k w.heap.size) := by
  have h1 := h.below hb
  have hlt := h.lt
  refine ⟨?_, fun j b hj => ?_, fun j b hj => ?_⟩
  · rw [heap_setCell_same _ _ _ _ _ _ h1.1, famCells_set F k _ hk]
  · have hfa : FamAt w1 j b := by
      unfold setFam at hj
      by_cases e : j = k
      · subst e
        rw [if_pos rfl] at hj
        cases hj
        exact hp.mono (Nat.zero_le _)
      · rw [if_neg e] at hj
        exact h1.2.1 j b hj
    obtain ⟨h0, v, hv1, hv2⟩ := hfa
    have hne : b ≠ bw := by
      intro e
      subst e
      rw [h1.1] at hv1
      simp at hv1
    refine ⟨h0, v, by rw [Below.heap_setCell _ _ _ _ hne]; exact hv1, hv2.kept (grown_setCell _ _ _ _) (.inr ?_)⟩
    exact own_ne hv2 h1.1 (by decide)
  · unfold setFam at hj
    by_cases e : j = k
    · omega
    · rw [if_neg e] at hj
      exact h.2.2 j b hj

/-- How a world's call leaves the rest. -/
structure Wd (bw : Nat) (F : Nat → Option Nat) (w : World) (F' : Nat → Option Nat) (w' : World) : Prop where
  ext : Ext F F'
  here : WorldAt w' bw F'
  grown : w.grownBy w' (some bw)

theorem physical_any (bw : Nat) (F : Nat → Option Nat) (k i s : Nat) (hk : k < 256) (w : World) (hW : WorldAt w bw F) :
    Calls Try.prog 36 #[.pointer (some ⟨bw, 0, none⟩), .int .u8 k, .int .u16 i, .int .u16 s] w fun e w' =>
      ∃ F', Wd bw F w F' w' ∧ e = .returned (rgV F' ⟨false, k, i, s⟩) ∧ (k < 4 → ∃ b, F' k = some b) := by
  by_cases hk4 : k < 4
  · cases hF : F k with
    | some b =>
      have hc := hW.cell hk4
      have hfa := hW.known hF
      have hlt := hW.lt
      have HFa := Lib.hid hfa
      have HW := Lib.hid hW
      unfold fp at hc
      rw [hF] at hc
      simp only [Option.map_some] at hc
      have HF := Lib.hid hF
      clear hF hfa hW
      go_enter Try.func36, Try.ntmps36
      go_wp2_with (go_at_call 46; refine (lookup_any k b i s hk4 _ HFa.out).mono ?_; rintro e w1 ⟨rfl, hb⟩)
      go_ret
      refine ⟨F, ⟨Ext.refl F, HW.out.below hb, grown_of_below hb _⟩, ?_, fun _ => ⟨b, HF.out⟩⟩
      rw [rgV_phys, HF.out]
      rfl
    | none =>
      have hc := hW.cell hk4
      have hlt := hW.lt
      have HW := Lib.hid hW
      have hfr : w.frozen? ⟨bw, k, none⟩ = false := by simp [World.frozen?, hW.1]
      unfold fp at hc
      rw [hF] at hc
      simp only [Option.map_none] at hc
      have HF := Lib.hid hF
      clear hF hW
      go_enter Try.func36, Try.ntmps36
      go_wp2_with (fail)
      go_region_with ((go_at_call 45; refine (family_any k hk4 _).mono ?_; rintro e w1 ⟨rfl, hp1, hb1⟩; have hc1 := cell_keep hb1 hc; have hf1 := frozen_keep hb1 hc hfr))
      have hb2 : Below w.heap.size w w1 := ⟨hb1.os, hb1.tape, hb1.output, hb1.size, hb1.block⟩
      have hW2 := HW.out.put hk4 HF.out hb2 hp1
      have hfa := hW2.known (k := k) (b := w.heap.size) (by simp [setFam])
      have hc2 := hW2.cell hk4
      have hfp : fp (setFam F k w.heap.size) k = .pointer (some ⟨w.heap.size, 0, none⟩) := by simp [fp, setFam]
      rw [hfp] at hc2
      have HW2 := Lib.hid hW2
      have HFa := Lib.hid hfa
      have HG := Lib.hid (World.grownBy.trans (grown_of_below hb2 (some bw)) (grown_setCell w1 bw k (.pointer (some ⟨w.heap.size, 0, none⟩))))
      clear hW2 hfa hfp hb1 hb2 hp1 hc hfr hc1 hf1
      go_wp2_with (go_at_call 46; refine (lookup_any k w.heap.size i s hk4 _ HFa.out).mono ?_; rintro e w3 ⟨rfl, hb⟩)
      go_ret
      refine ⟨_, ⟨Ext.set HF.out, HW2.out.below hb, World.grownBy.trans HG.out (grown_of_below hb _)⟩, ?_, fun _ => ⟨w.heap.size, by simp [setFam]⟩⟩
      rw [rgV_phys]
      simp [setFam]
  · go_enter Try.func36, Try.ntmps36
    go_wp2
    go_ret
    refine ⟨F, ⟨Ext.refl F, hW, grown_of_below (Below.refl _ _) _⟩, ?_, fun h => absurd h hk4⟩
    rw [rgV_phys, found_none (by omega)]
    rfl
end Go.Proofs.Ytomladkeanieeaa
