/- A world that has grown: what was known of a register is known still. Two registers compared. -/
import Derived.Test.YtomladkeanieeaaSpecR
namespace Go.Proofs.Ytomladkeanieeaa
open Go.RowKit
set_option linter.unusedVariables false
set_option linter.unusedSimpArgs false

theorem WorldAt.drewN {w : World} {bw : Nat} {F : Nat → Option Nat} (h : WorldAt w bw F) (n : Nat) : WorldAt (w.drewN n) bw F := h.below (below_drewN (Below.refl _ _) n)
theorem Wd.below {bw : Nat} {F F' : Nat → Option Nat} {w w' : World} {B : Nat} {w0 : World} (h : Wd bw F w F' w') (hb : Below B w0 w) (hB : B ≤ bw) (hs : B ≤ w.heap.size) : Below B w0 w' :=
  hb.grown h.grown hs (fun k hk => by cases hk; exact hB)
theorem Wd.fams {bw : Nat} {F F' : Nat → Option Nat} {w w' : World} (h : Wd bw F w F' w') : FamsAt w' F' := h.here.2.1
/-- A block of another type than the world's is not touched. -/
theorem Wd.blk {bw : Nat} {F F' : Nat → Option Nat} {w w' : World} (h : Wd bw F w F' w') (hW : WorldAt w bw F) {b : Nat} {cs : Array Value} {T : TypeId} {fr : Nat × Nat} (hb : w.heap[b]? = some (.cells cs T fr)) (hT : T ≠ 91) : w'.heap[b]? = some (.cells cs T fr) := by
  rw [h.grown.block b (Array.getElem?_eq_some_iff.1 hb).1 ?_]
  · exact hb
  · intro e
    injection e with e
    subst e
    rw [hW.1] at hb
    injection hb with hb
    injection hb with _ h2
    exact hT h2.symm
theorem Wd.trans {bw : Nat} {F G H : Nat → Option Nat} {w1 w2 w3 : World} (h : Wd bw F w1 G w2) (k : Wd bw G w2 H w3) : Wd bw F w1 H w3 := ⟨h.ext.trans k.ext, k.here, World.grownBy.trans h.grown k.grown⟩
theorem Wd.more {bw : Nat} {F G : Nat → Option Nat} {w1 w2 w3 : World} (h : Wd bw F w1 G w2) (k : Below w2.heap.size w2 w3) : Wd bw F w1 G w3 := ⟨h.ext, h.here.below k, World.grownBy.trans h.grown (grown_of_below k _)⟩
theorem worldAt_new1 (w : World) (o : Obj) : WorldAt ((w.alloc o).alloc (.cells (famCells NoFam) 91)) (w.heap.size + 1) NoFam := by
  have := worldAt_new (w.alloc o)
  simpa using this
theorem worldAt_new2 (w : World) (o o' : Obj) : WorldAt (((w.alloc o).alloc o').alloc (.cells (famCells NoFam) 91)) (w.heap.size + 1 + 1) NoFam := by
  have := worldAt_new ((w.alloc o).alloc o')
  simpa using this

theorem FamsAt.of_ext {w : World} {F F' : Nat → Option Nat} (h : FamsAt w F') (he : Ext F F') : FamsAt w F := fun k b hk => h k b (he k b hk)
theorem Meth.ext {F F' : Nat → Option Nat} {t : Nat} {x : Value} {n : String} {res : Value} (h : Meth F t x n res) (he : Ext F F') : Meth F' t x n res := by
  obtain ⟨f, a, h1, h2, h3⟩ := h
  exact ⟨f, a, h1, h2, fun w hf => h3 w (hf.of_ext he)⟩
theorem rgV_ext {F F' : Nat → Option Nat} {r : Rg} (hk : Known F r) (he : Ext F F') : rgV F' r = rgV F r := by
  unfold rgV
  rcases hk with hv | ⟨hv, _, b, hb⟩
  · rw [hv]; rfl
  · rw [hv, he _ _ hb, hb]
theorem RgM.more {F F' : Nat → Option Nat} {r : Rg} {t : Nat} {x : Value} (h : RgM F r t x) (hk : Known F r) (he : Ext F F') : RgM F' r t x :=
  ⟨(rgV_ext hk he).trans h.val, h.id.ext he, h.kind.ext he, h.mask.ext he, fun hv => (h.vidx hv).ext he, fun hv => (h.pidx hv).ext he, h.toV, h.toP⟩
theorem Known.more {F F' : Nat → Option Nat} {r : Rg} (hk : Known F r) (he : Ext F F') : Known F' r := by
  rcases hk with hv | ⟨hv, hh, b, hb⟩
  · exact .inl hv
  · exact .inr ⟨hv, hh, b, he _ _ hb⟩

/-- '==' on registers as plain data. -/
theorem eqReg_run (a b : Rg) (W : World) : (binOp .eql 24 a.val b.val).run Try.prog W = .ok (.bool (decide (a = b))) W := by
  obtain ⟨va, ka, ia, sa⟩ := a
  obtain ⟨vb, kb, ib, sb⟩ := b
  simp only [binOp, Rg.val]
  simp only [Op.equal, Op.maxDepth, Sem.run_bind]
  rw [run_equalIn_struct W 9999 24 _ _ (by kernel_rfl) (by kernel_rfl)]
  have hf : (Try.prog.fieldsOf 24).toList = (match Try.prog.underlying 24 with | some (.struct fs) => fs.toList | _ => []) := by kernel_rfl
  rw [hf, Try.underlying24]
  by_cases h1 : va = vb
  · by_cases h2 : ka = kb
    · by_cases h3 : ia = ib
      · by_cases h4 : sa = sb
        · subst h1 h2 h3 h4
          simp [Op.eqFields, go_sem]
        · have q : ((sa : Int) == (sb : Int)) = false := by simp; omega
          subst h1 h2 h3
          simp [Op.eqFields, go_sem, q, h4]
      · have q : ((ia : Int) == (ib : Int)) = false := by simp; omega
        subst h1 h2
        simp [Op.eqFields, go_sem, q, h3]
    · have q : ((ka : Int) == (kb : Int)) = false := by simp; omega
      subst h1
      simp [Op.eqFields, go_sem, q, h2]
  · have q : (va == vb) = false := by simpa using h1
    simp [Op.eqFields, go_sem, q, h1]

/-- What 'w.reg(r)' gives, in one form. -/
def WReg2 (bw : Nat) (F : Nat → Option Nat) (r : Rg) (w : World) (e : Ending) (w' : World) : Prop :=
  ∃ F' t x, Wd bw F w F' w' ∧ (isReg r = true → RgM F' r t x ∧ Known F' r) ∧ e = .returned (.tuple #[if isReg r = true then .iface t x else .nilIface, .bool (isReg r)])
theorem wreg2_any (bw : Nat) (F : Nat → Option Nat) (r : Rg) (hr : r.ok) (w : World) (hW : WorldAt w bw F) :
    Calls Try.prog 22 #[.pointer (some ⟨bw, 0, none⟩), r.val] w (WReg2 bw F r w) := by
  refine (wreg_any bw F r hr w hW).mono fun e w' ⟨F', h, h1, h2⟩ => ?_
  cases hi : isReg r with
  | true =>
    obtain ⟨t, x, hM, hK, he⟩ := h1 hi
    exact ⟨F', t, x, h, fun _ => ⟨hM, hK⟩, by rw [he, hi]; rfl⟩
  | false => exact ⟨F', 0, .nilIface, h, (fun h => by rw [hi] at h; cases h), by rw [h2 hi, hi]; rfl⟩
end Go.Proofs.Ytomladkeanieeaa
