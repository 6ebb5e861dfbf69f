/- Arguments that came in are plain data: a register. -/
import Derived.Test.YtomladkeanieeaaRows
import Derived.Test.YtomladkeanieeaaBase
import Derived.ProofKit
import Derived.OpenShut
import Derived.Lib.SmallJoins
import Derived.ChangeOld
import Derived.Below
namespace Go.Proofs.Ytomladkeanieeaa
open Go.ChangeShapes Go.WideShapes Go.ChangeAt Go.RowKit Go.Joins
set_option linter.unusedVariables false

theorem own : ownKnob Try.prog.godebug = none := by kernel_rfl
theorem laidOut : laidOutB Try.prog = true := by kernel_rfl
theorem cellsReg : Try.prog.cellsOf 24 = 4 := by kernel_rfl

set_option maxRecDepth 100000 in
/-- A register that came in is plain data. -/
theorem open_reg {H : Type} {enc : TypeId × Value → H} {W : World} {b0 base : Nat} {sp : Nat → Bool} {r0 : Reach} {held : Bool} {v : Value} {d : DataW H} {p : List MemPlace} (hv : Value.okWide Try.prog W r0 b0 24 v) (h : DataW.Trod enc Try.prog W base sp held 24 v d p) :
    ∃ r : Rg, v = r.val ∧ r.ok := by
  obtain ⟨c0, c1, c2, c3, y0, y1, y2, y3, m, rfl, rfl, rfl, h0, h1, h2, h3⟩ := open_agg4 Try.underlying24 (by kernel_rfl) cellsReg hv h
  obtain ⟨x0, e0, rfl⟩ := DataW.trod_bool Try.underlying4 h0
  obtain ⟨x1, e1, rfl, w1⟩ := DataW.trod_int Try.underlying5 h1
  obtain ⟨x2, e2, rfl, w2⟩ := DataW.trod_int Try.underlying22 h2
  obtain ⟨x3, e3, rfl, w3⟩ := DataW.trod_int Try.underlying22 h3
  simp at e0 e1 e2 e3
  subst e0 e1 e2 e3
  have b1 := bounds_u8 w1
  have b2 := bounds_u16 w2
  have b3 := bounds_u16 w3
  obtain ⟨n1, rfl⟩ := Int.eq_ofNat_of_zero_le b1.1
  obtain ⟨n2, rfl⟩ := Int.eq_ofNat_of_zero_le b2.1
  obtain ⟨n3, rfl⟩ := Int.eq_ofNat_of_zero_le b3.1
  exact ⟨⟨x0, n1, n2, n3⟩, rfl, by simp only [Rg.ok]; omega⟩

end Go.Proofs.Ytomladkeanieeaa
