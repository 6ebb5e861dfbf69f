/- FnNumbersDiffer: for every two registers as plain data the law returns true, and both read as they did. No condition. -/
import Derived.Test.YtomladkeanieeaaRows
import Derived.Test.YtomladkeanieeaaNumLaw
import Derived.ProofKit
import Derived.OpenShut
import Derived.Lib.SmallJoins
import Derived.ChangeOld
import Derived.Below
namespace Go.Proofs.Ytomladkeanieeaa.NumRow
open Go.ChangeShapes Go.WideShapes Go.ChangeAt Go.RowKit Go.Joins
set_option linter.unusedVariables false

theorem own : ownKnob Try.prog.godebug = none := by kernel_rfl
theorem laidOut : laidOutB Try.prog = true := by kernel_rfl
theorem cellsReg : Try.prog.cellsOf 24 = 4 := by kernel_rfl

set_option maxRecDepth 100000 in
/-- A register that came in is plain data. -/
theorem open_reg {H : Type} {enc : TypeId × Value → H} {W : World} {b0 base : Nat} {sp : Nat → Bool} {r0 : Reach} {held : Bool} {v : Value} {d : DataW H} {p : List MemPlace} (hv : Value.okWide Try.prog W r0 b0 24 v) (h : DataW.Trod enc Try.prog W base sp held 24 v d p) :
    ∃ r : Rg, v = r.val ∧ r.ok := by
  obtain ⟨c0, c1, c2, c3, y0, y1, y2, y3, m, rfl, rfl, rfl, h0, h1, h2, h3⟩ := open_agg4 Try.underlying24 (by kernel_rfl) cellsReg hv h
  obtain ⟨x0, e0, rfl⟩ := DataW.trod_bool Try.underlying4 h0
  obtain ⟨x1, e1, rfl, w1⟩ := DataW.trod_int Try.underlying5 h1
  obtain ⟨x2, e2, rfl, w2⟩ := DataW.trod_int Try.underlying22 h2
  obtain ⟨x3, e3, rfl, w3⟩ := DataW.trod_int Try.underlying22 h3
  simp at e0 e1 e2 e3
  subst e0 e1 e2 e3
  have b1 := bounds_u8 w1
  have b2 := bounds_u16 w2
  have b3 := bounds_u16 w3
  obtain ⟨n1, rfl⟩ := Int.eq_ofNat_of_zero_le b1.1
  obtain ⟨n2, rfl⟩ := Int.eq_ofNat_of_zero_le b2.1
  obtain ⟨n3, rfl⟩ := Int.eq_ofNat_of_zero_le b3.1
  exact ⟨⟨x0, n1, n2, n3⟩, rfl, by simp only [Rg.ok]; omega⟩

set_option maxRecDepth 100000 in
theorem lifted (os : Os) (started : os.Started) (H : Type) (enc : TypeId × Value → H) :
    ReturnsInHanded {} Try.checked os 3 .any (Rows.fnNumbersDifferSpec.pre6 enc Try.prog Try.f3 Rows.fnNumbersDifferRow.domain false) (Rows.fnNumbersDifferSpec.post enc Try.prog Try.f3 false true false false) := by
  refine returnsInHanded_of_change (C := Try.checked) own started (by kernel_rfl) Try.func3
    (ChangeSpec.witness6 (enc := enc) (C := Try.checked) false ⟨#[], #[.agg #[.bool false, .int .u8 0, .int .u16 0, .int .u16 0], .agg #[.bool false, .int .u8 0, .int .u16 0, .int .u16 0]], []⟩ 8 (by kernel_rfl) (by kernel_rfl) (by kernel_rfl) (by kernel_rfl)) ?_
  intro W base args ds gs before hval0 hW hcnd _
  have hval : ∀ (j : Nat) t v, Try.f3.params[j]? = some t → args[j]? = some v → Value.okWide Try.prog W .any base t v := hval0
  have hW' := hW
  obtain ⟨p, q, hA0, hV, rfl, hfz, hnd⟩ := hW
  have hA : DataW.TrodAll enc Try.prog W 0 (fun _ => true) true Try.f3.params.toList args.toList ds p := hA0
  rw [Try.params3] at hA hval
  obtain ⟨v0, vs0, d0, ds0, p0, q0, hargs, rfl, rfl, h0, r0⟩ := trodAll_cons hA
  obtain ⟨v1, vs1, d1, ds1, p1, q1, rfl, rfl, rfl, h1, r1⟩ := trodAll_cons r0
  obtain ⟨rfl, rfl, rfl⟩ := trodAll_nil r1
  obtain rfl : args = #[v0, v1] := by cases args; simp_all
  obtain ⟨rfl, rfl⟩ := trodVars_none hV
  have k0 := h0
  have k1 := h1
  have lt0 : ∀ x ∈ p0, x.block < W.heap.size := by obtain ⟨m, hm⟩ := k0; exact DataW.trod_lt m _ _ _ hm
  have lt1 : ∀ x ∈ p1, x.block < W.heap.size := by obtain ⟨m, hm⟩ := k1; exact DataW.trod_lt m _ _ _ hm
  obtain ⟨a, rfl, ha⟩ := open_reg (hval 0 24 v0 rfl rfl) h0
  obtain ⟨b, rfl, hb⟩ := open_reg (hval 1 24 v1 rfl rfl) h1
  clear hA0 hval0
  refine (numbersDiffer_walk a b ha hb W).mono fun e W' ⟨he, bel⟩ => ?_
  subst he
  exact ⟨_, rfl, _, _, _, [], _, [], hW', trodAll_mk1 (shut_bool Try.underlying4 _), (trodAll_cons_mk (Below.trod laidOut (by kernel_rfl) (of_decide_eq_true (by kernel_rfl)) k0 bel lt0) (trodAll_cons_mk (Below.trod laidOut (by kernel_rfl) (of_decide_eq_true (by kernel_rfl)) k1 bel lt1) trodAll_mk0)), rfl, bel.frame _, fun h => by cases h⟩

theorem over : Rows.fnNumbersDifferRow.holds Try.pinned (OpenSpec.ofChange Rows.fnNumbersDifferSpec) :=
  OpenClaim.holds_of_wide 3 Try.f3 rfl rfl rfl rfl rfl rfl rfl ⟨rfl, rfl, rfl, rfl, rfl⟩ rfl rfl rfl rfl rfl (by kernel_rfl) Try.func3 (by kernel_rfl)
    (of_decide_eq_true (by kernel_rfl)) (by unfold Func.isWrapper; rw [if_neg (of_decide_eq_false (by kernel_rfl))]; exact ⟨rfl, rfl⟩)
    (fun os started H enc _ => lifted os started H enc)

theorem proved : Rows.FnNumbersDifferSaid := over
#print axioms proved
end Go.Proofs.Ytomladkeanieeaa.NumRow
