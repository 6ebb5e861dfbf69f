/- How a family is made: the registers one after the other; the family of each kind whole. -/
import Derived.Test.YtomladkeanieeaaMeth
namespace Go.Proofs.Ytomladkeanieeaa
open Go.RowKit
set_option linter.unusedVariables false
set_option linter.unusedSimpArgs false

theorem newreg_nil (b : Nat) (s i : Int) (name : ByteArray) (w : World) :
    Calls Try.prog 51 #[.pointer (some ⟨b, 0, none⟩), .int .u16 s, .int .u16 i, .string name, .slice none 0 0] w fun e w' =>
      e = .returned (.agg #[.pointer (some ⟨b, 0, none⟩), .int .u16 i, .string name, .int .u8 0, .int .u16 s]) ∧ Below w.heap.size w w' := by
  go_enter Try.func51, Try.ntmps51
  go_wp2
  refine wp_loop_once ?_
  go_wp2
  refine bodyPost_ret (v := .agg #[.pointer (some ⟨b, 0, none⟩), .int .u16 i, .string name, .int .u8 0, .int .u16 s]) (by simp [results, Try.results51, go_sem]) rfl ⟨rfl, ?_⟩
  exact (by repeat (first | exact Below.refl _ _ | assumption | refine Below.drew ?_ | refine below_drewN ?_ _ | refine Below.alloc ?_ (by simp; try omega) _ | refine Below.setCell ?_ (by simp; try omega) _ | refine below_setRow ?_ (by simp; try omega) _))
theorem newreg_one (b : Nat) (s i : Int) (name : ByteArray) (fl : Nat) (hfl : fl < 256) (w : World) (g : Nat) (hg : w.cell? ⟨g, 0, none⟩ = some (.int .u8 fl)) :
    Calls Try.prog 51 #[.pointer (some ⟨b, 0, none⟩), .int .u16 s, .int .u16 i, .string name, .slice (some ⟨g, 0, none⟩) 1 1] w fun e w' =>
      e = .returned (.agg #[.pointer (some ⟨b, 0, none⟩), .int .u16 i, .string name, .int .u8 fl, .int .u16 s]) ∧ Below w.heap.size w w' := by
  have hlt : g < w.heap.size := World.block_lt_of_cell? w _ hg
  have hor : bits BinOp.or IntKind.u8 0 (fl : Int) = fl := by
    have := u8_or_nat 0 fl (by omega) hfl
    simpa using this
  go_enter Try.func51, Try.ntmps51
  go_wp2
  refine wp_loop_rounds 2 ?_
  rw [rounds_succ]
  go_wp2
  rw [rounds_succ]
  go_wp2
  refine bodyPost_ret (v := .agg #[.pointer (some ⟨b, 0, none⟩), .int .u16 i, .string name, .int .u8 fl, .int .u16 s]) (by simp [results, Try.results51, go_sem]) rfl ⟨rfl, ?_⟩
  exact (by repeat (first | exact Below.refl _ _ | assumption | refine Below.drew ?_ | refine below_drewN ?_ _ | refine Below.alloc ?_ (by simp; try omega) _ | refine Below.setCell ?_ (by simp; try omega) _ | refine below_setRow ?_ (by simp; try omega) _))

theorem newgpp_any (t : Nat) (v : Value) (w : World) : Calls Try.prog 50 #[.iface t v] w fun e w' => e = .returned (.iface 146 (.agg #[.iface t v])) ∧ w = w' := by
  have k1 := fun x => run_makeInterface (P := Try.prog) w 146 x (by kernel_rfl)
  go_enter Try.func50, Try.ntmps50
  go_wp2
  go_ret
  exact ⟨rfl, rfl⟩
theorem newvecp_any (t : Nat) (v : Value) (w : World) : Calls Try.prog 52 #[.iface t v] w fun e w' => e = .returned (.iface 148 (.agg #[.iface t v, .nilIface])) ∧ w = w' := by
  have k1 := fun x => run_makeInterface (P := Try.prog) w 148 x (by kernel_rfl)
  go_enter Try.func52, Try.ntmps52
  go_wp2
  go_ret
  exact ⟨rfl, rfl⟩
theorem newopmaskp_any (t : Nat) (v : Value) (w : World) : Calls Try.prog 53 #[.iface t v] w fun e w' => e = .returned (.iface 149 (.agg #[.iface t v])) ∧ w = w' := by
  have k1 := fun x => run_makeInterface (P := Try.prog) w 149 x (by kernel_rfl)
  go_enter Try.func53, Try.ntmps53
  go_wp2
  go_ret
  exact ⟨rfl, rfl⟩

theorem FamPart.grow {w w2 : World} {B b k g c : Nat} {es : List Ent} {e0 : Ent} {v : Value} (hlt : b < w.heap.size) (hB : B ≤ b) (h1 : w.heap[b]? = some (.cells #[.int .u8 k, v] 129 (0, 0))) (hne : v.ownBlock ≠ some b)
    (hg : w.grownBy w2 v.ownBlock) (hown : w2.ownsRow B 95 1 (.slice (some ⟨g, 0, none⟩) (es.length + 1) c) (es.length + 1) (es.map (entI k b) ++ [entI k b e0])) :
    FamPart (w2.setCell ⟨b, 1, none⟩ (.slice (some ⟨g, 0, none⟩) (es.length + 1) c)) B b k (es ++ [e0]) := by
  have h2 : w2.heap[b]? = some (.cells #[.int .u8 k, v] 129 (0, 0)) := by rw [hg.block b hlt (fun e => hne e.symm)]; exact h1
  refine ⟨hB, .slice (some ⟨g, 0, none⟩) (es.length + 1) c, ?_, ?_⟩
  · rw [heap_setCell_same _ _ _ _ _ _ h2]; rfl
  · have hgb : g ≠ b := by
      intro e
      have := own_ne hown h2 (by decide)
      simp [Value.ownBlock, e] at this
    have hk := hown.kept (grown_setCell w2 b 1 (.slice (some ⟨g, 0, none⟩) (es.length + 1) c)) (.inr (by simpa [Value.ownBlock] using hgb))
    simpa using hk

/-- Nothing has turned but the block b and rows of registers. -/
def OffRows (b : Nat) (w w' : World) : Prop := ∀ i, i < w.heap.size → i ≠ b → (∀ cur fr, w.heap[i]? ≠ some (.cells cur 95 fr)) → w'.heap[i]? = w.heap[i]?

theorem add_any (B b k : Nat) (es : List Ent) (e0 : Ent) (t : Nat) (x : Value) (hx : entI k b e0 = .iface t x) (hm : ∀ w, (method 276 t x "Kind").run Try.prog w = .ok (98, entV b e0) w)
    (w : World) (hp : FamPart w B b k es) (hlen : es.length < 1000) :
    Calls Try.prog 49 #[.pointer (some ⟨b, 0, none⟩), .iface t x] w fun e w' => e = .returned (.tuple #[]) ∧ FamPart w' B b k (es ++ [e0]) ∧ Below B w w' ∧ OffRows b w w' := by
  have hk := hp.kind
  have hb := World.new_ne w _ hk
  have Hx := Lib.hid hx
  obtain ⟨hB, v, h1, h2⟩ := hp
  have H1 := Lib.hid h1
  have H2 := Lib.hid h2
  have HN := Lib.hid (own_ne h2 h1 (by decide))
  have hlt : b < w.heap.size := (Array.getElem?_eq_some_iff.1 h1).1
  have hc1 : w.cell? ⟨b, 1, none⟩ = some v := by simp [World.cell?, h1]
  clear h1 h2 hx
  go_enter Try.func49, Try.ntmps49
  go_wp2_with (fail)
  go_region_held3 (fun w' => w'.cell? ⟨b, 0, none⟩ = some (.int .u8 k)) (first | exact hk | exact cell_keep hb1 (by assumption)) ((go_at_call 98; refine (rkind_any b k e0 _ (by assumption)).mono ?_; rintro e w1 ⟨rfl, hb1⟩))
  have hb2 : Below w.heap.size w w1 := ⟨hb1.os, hb1.tape, hb1.output, hb1.size, hb1.block⟩
  have hc2 := cell_keep hb2 hc1
  have hlt2 : b < w1.heap.size := Nat.lt_of_lt_of_le hlt hb2.size
  have H12 := Lib.hid ((hb2.block b hlt).trans H1.out)
  have H22 := Lib.hid (own_keep H2.out hb2)
  clear hc1 hk hb1
  go_wp2_with (at_builtin; refine wp_append_one B rfl _ _ 127 95 .nilIface 16 rfl Try.underlying127 (by kernel_rfl) rfl (by decide) v es.length _ (.iface t x) rfl rfl rfl H22.out (by omega) (by omega) ?_; intro g c w2 hown2 hg2; have HO := Lib.hid hown2; clear hown2; have HG := Lib.hid hg2; have hc3 : ∃ u, w2.cell? ⟨b, 1, none⟩ = some u := ⟨v, hg2.cell hc2 (fun e => HN.out e.symm)⟩; obtain ⟨u3, hc3⟩ := hc3; have hf3 : w2.frozen? ⟨b, 1, none⟩ = false := (World.frozen?_of_block (hg2.block b hlt2 (fun e => HN.out e.symm))).trans (by simp [World.frozen?, H12.out]); clear hc2 hg2)
  go_end0
  refine ⟨rfl, FamPart.grow hlt2 hB H12.out HN.out HG.out (by rw [Hx.out]; exact HO.out), ((hb2.mono (by omega)).grown HG.out (by omega) (own_base H22.out)).setCell hB _, fun i hi hib hne => ?_⟩
  rw [Below.heap_setCell _ _ _ _ hib, ← hb2.block i hi]
  refine HG.out.block i (Nat.lt_of_lt_of_le hi hb2.size) (fun e => ?_)
  obtain ⟨cur, hcur⟩ := own_type H22.out i e.symm
  exact hne cur (0, 0) ((hb2.block i hi).symm.trans hcur)

/-! ### One row of FamilyOfKind: 'f.add(newX(newregister(f, SPEC, INDEX, NAME)))' -/
/-- What stays of a frame from one row to the next: the argument, the family's slot, its size. -/
def Kept1 (a a' : Act) : Prop := a'.tmps.size = a.tmps.size ∧ (∀ j, j < 8 → a'.tmps.getD j undef = a.tmps.getD j undef) ∧ a'.defers = a.defers
theorem Kept1.refl (a : Act) : Kept1 a a := ⟨rfl, fun _ _ => rfl, rfl⟩
theorem Kept1.trans {a b c : Act} (h : Kept1 a b) (k : Kept1 b c) : Kept1 a c := ⟨k.1.trans h.1, fun j hj => (k.2.1 j hj).trans (h.2.1 j hj), k.2.2.trans h.2.2⟩
theorem Kept1.put {a : Act} {d : Nat} (hd : 8 ≤ d) (v : Value) : Kept1 a (a.put (some d) v) := by
  refine ⟨by simp [Act.put], fun j hj => ?_, rfl⟩
  simp only [Act.put, Array.getD_eq_getD_getElem?]
  rw [Array.getElem?_setIfInBounds_ne (by omega)]
theorem put_get {a : Act} {d : Nat} (v : Value) (h : d < a.tmps.size) : (a.put (some d) v).tmps.getD d undef = v := by
  simp [Act.put, Array.getD_eq_getD_getElem?, h]
theorem put_ne {a : Act} {d e : Nat} (v : Value) (h : d ≠ e) : (a.put (some d) v).tmps.getD e undef = a.tmps.getD e undef := by
  simp only [Act.put, Array.getD_eq_getD_getElem?]
  rw [Array.getElem?_setIfInBounds_ne h]
theorem put_size {a : Act} {d : Nat} (v : Value) : (a.put (some d) v).tmps.size = a.tmps.size := by simp [Act.put]

/-! ### Steps of a frame of whatever size -/
section
variable {P : Program} {ops : Array Oper} {Q : Exit → Act → World → Prop} {a : Act} {w : World} {rest : List Oper} {o : Oper}
theorem wpl_value (v : Value) (hgd : o.guard = none) (h1 : (execOp a.eval o).run P w = .ok (.value v) w) (h : wpList P ops Q rest (a.put o.dst v) w) : wpList P ops Q (o :: rest) a w := by
  refine wpList_plain hgd fun K hK => ?_
  unfold Oper.wp
  rw [h1]
  exact hK _ _ h
theorem wpl_move (x : Operand) (hgd : o.guard = none) (ho : o.op = .move x) (h : wpList P ops Q rest (a.put o.dst (a.eval x)) w) : wpList P ops Q (o :: rest) a w :=
  wpl_value _ hgd (by simp [execOp, ho]) h
theorem wpl_assign (x : Operand) (hgd : o.guard = none) (ho : o.op = .assign x) (h : wpList P ops Q rest (a.put o.dst (a.eval x)) w) : wpList P ops Q (o :: rest) a w :=
  wpl_value _ hgd (by simp [execOp, ho]) h
theorem wpl_iface (t : TypeId) (x : Operand) (hgd : o.guard = none) (ho : o.op = .makeInterface t x) (hk : ∀ v, (Instr.makeInterface t v).run P w = .ok (.iface t v) w) (h : wpList P ops Q rest (a.put o.dst (.iface t (a.eval x))) w) : wpList P ops Q (o :: rest) a w :=
  wpl_value _ hgd (by simp [execOp, ho, hk]) h
theorem wpl_call (f : FuncId) (xs : Array Operand) (ts : Array TypeId) (hgd : o.guard = none) (ho : o.op = .call { callee := .value (.func f), args := xs, argTypes := ts })
    (hf : ∀ args, (callFunc f args).run P w = .ok (.enter f args) w)
    (h : Calls P f (xs.map a.eval) w fun e w' => ∃ v, e = .returned v ∧ wpList P ops Q rest (a.put o.dst v) w') : wpList P ops Q (o :: rest) a w := by
  refine wpList_plain hgd fun K hK => ?_
  have h1 : (execOp a.eval o).run P w = .ok (.enter f (xs.map a.eval)) w := by
    unfold execOp
    simp only [ho]
    simp [resolve, invoke, Act.eval, Deferred.ofValue, hf]
  unfold Oper.wp
  rw [h1, Oper.upon_enter]
  refine h.mono ?_
  rintro e w' ⟨v, rfl, h⟩
  exact hK _ _ h
theorem seq_row {x y : Code} {R : Act → World → Prop} (hx : ∀ Q' : Exit → Act → World → Prop, (∀ a' w', R a' w' → Q' .normal a' w') → x.wp P Q' a w) (hy : ∀ a' w', R a' w' → y.wp P Q a' w') : (Code.seq x y).wp P Q a w :=
  wp_seq (hx _ (fun a' w' h => hy a' w' h))
end

/-- Where FamilyOfKind stands: its family, the first n registers in it. -/
structure FR (w0 : World) (b k n : Nat) (a : Act) (w : World) : Prop where
  size : a.tmps.size = Try.f45.ntmps
  kind : a.tmps.getD 7 undef = .int .u8 k
  here : a.tmps.getD 3 undef = .pointer (some ⟨b, 0, none⟩)
  defers : a.defers = []
  part : FamPart w w0.heap.size b k ((fam k).take n)
  below : Below w0.heap.size w0 w

theorem eval_tmp (a : Act) (t : Nat) : a.eval (.tmp t) = a.tmps.getD t undef := rfl
theorem eval_const (a : Act) (v : Value) : a.eval (.const v) = v := rfl
theorem FR.keep {w0 w : World} {b k n : Nat} {a a' : Act} (h : FR w0 b k n a w) (hk : Kept1 a a') : FR w0 b k n a' w :=
  ⟨hk.1.trans h.size, (hk.2.1 7 (by omega)).trans h.kind, (hk.2.1 3 (by omega)).trans h.here, hk.2.2.trans h.defers, h.part, h.below⟩

theorem kept6 {a : Act} {d1 d2 d3 d4 d5 d6 : Nat} {v1 v2 v3 v4 v5 v6 : Value} (h1 : 8 ≤ d1) (h2 : 8 ≤ d2) (h3 : 8 ≤ d3) (h4 : 8 ≤ d4) (h5 : 8 ≤ d5) (h6 : 8 ≤ d6) :
    Kept1 a ((((((a.put (some d1) v1).put (some d2) v2).put (some d3) v3).put (some d4) v4).put (some d5) v5).put (some d6) v6) :=
  (((((Kept1.put h1 _).trans (.put h2 _)).trans (.put h3 _)).trans (.put h4 _)).trans (.put h5 _)).trans (.put h6 _)
theorem take_next {α : Type} {l : List α} {n : Nat} {x : α} (h : l[n]? = some x) : l.take n ++ [x] = l.take (n + 1) := by
  rw [List.take_add_one, h]; rfl
theorem fam_len (k : Nat) : (fam k).length < 1000 := by
  match k with
  | 0 => decide
  | 1 => decide
  | 2 => decide
  | 3 => decide
  | n + 4 => show 0 < 1000; omega

theorem test_row {w0 w : World} {b k : Nat} {a : Act} {id d1 d2 : Nat} {c : Int} {y1 y2 : TypeId} {p1 p2 : String} {f1 f2 : Array Edge} (b0 : Bool) (hb : ((k : Int) == c) = b0) (h : FR w0 b k 0 a w)
    (hd : 8 ≤ d1 ∧ 8 ≤ d2 ∧ d1 < Try.f45.ntmps ∧ d2 < Try.f45.ntmps) :
    ∀ Q : Exit → Act → World → Prop, (∀ a' w', (FR w0 b k 0 a' w' ∧ a'.eval (.tmp d2) = .bool b0) → Q .normal a' w') →
    (Code.region id #[⟨some d1, .binOp .eql 68 (.tmp 7) (.const (.int .u8 c)) 68, y1, p1, f1, none⟩, ⟨some d2, .assign (.tmp d1), y2, p2, f2, none⟩] false).wp Try.prog Q a w := by
  intro Q hQ
  obtain ⟨h1, h2, h3, h4⟩ := hd
  have hs := h.size
  refine wp_region_list ?_
  refine wpl_value (.bool b0) rfl ?_ ?_
  · simp only [execOp]
    rw [eval_tmp, eval_const, h.kind, ← hb]
    simp [go_sem]
  refine wpl_assign _ rfl rfl ?_
  refine wpList_nil (hQ _ _ ⟨(h.keep (.put h1 _)).keep (.put h2 _), ?_⟩)
  rw [eval_tmp, put_get _ (by rw [put_size]; omega), eval_tmp, put_get _ (by omega)]

section
variable {w0 w : World} {b k n : Nat} {a : Act} {id d1 d2 d3 d4 d5 d6 : Nat} {y1 y2 y3 y4 y5 y6 : TypeId} {p1 p2 p3 p4 p5 p6 : String} {f1 f2 f3 f4 f5 f6 : Array Edge} {s i : Int} {nm : ByteArray} {t3 t5 t6 : Array TypeId}
/-- 'f.add(newX(newregister(f, SPEC, INDEX, NAME)))': one register more. newX: what makes an entry's value of a register's. -/
theorem fam_row {newX T : Nat} (e0 : Ent) (he : (fam k)[n]? = some e0) (h1 : s = (e0.spec : Nat)) (h2 : i = (e0.idx : Nat)) (h3 : nm = ⟨e0.name.toArray⟩) (h0 : e0.info = 0) (hx : ∀ e0, ∃ x, entI k b e0 = .iface T x ∧
      (∀ w, (method 276 T x "Kind").run Try.prog w = .ok (98, entV b e0) w) ∧ ∀ w, Calls Try.prog newX #[.iface 137 (entV b e0)] w fun e w' => e = .returned (.iface T x) ∧ w = w')
    (hn : ∀ args w, (callFunc newX args).run Try.prog w = .ok (.enter newX args) w) (h : FR w0 b k n a w)
    (hd : 8 ≤ d1 ∧ d1 < d2 ∧ d2 < d3 ∧ d3 < d4 ∧ d4 < d5 ∧ d5 < d6 ∧ d6 < Try.f45.ntmps) :
    ∀ Q : Exit → Act → World → Prop, (∀ a' w', FR w0 b k (n + 1) a' w' → Q .normal a' w') →
    (Code.region id #[⟨some d1, .move (.tmp 3), y1, p1, f1, none⟩, ⟨some d2, .move (.tmp 3), y2, p2, f2, none⟩,
      ⟨some d3, .call { callee := .value (.func 51), args := #[.tmp d2, .const (.int .u16 s), .const (.int .u16 i), .const (.string nm), .const (.slice none 0 0)], argTypes := t3 }, y3, p3, f3, none⟩,
      ⟨some d4, .makeInterface 137 (.tmp d3), y4, p4, f4, none⟩,
      ⟨some d5, .call { callee := .value (.func newX), args := #[.tmp d4], argTypes := t5 }, y5, p5, f5, none⟩,
      ⟨some d6, .call { callee := .value (.func 49), args := #[.tmp d1, .tmp d5], argTypes := t6 }, y6, p6, f6, none⟩] false).wp Try.prog Q a w := by
  intro Q hQ
  obtain ⟨k1, k2, k3, k4, k5, k6, k7⟩ := hd
  have hs := h.size
  obtain ⟨x, hx1, hx2, hx3⟩ := hx e0
  subst h1; subst h2; subst h3
  refine wp_region_list ?_
  refine wpl_move _ rfl rfl ?_
  refine wpl_move _ rfl rfl ?_
  rw [eval_tmp, eval_tmp, put_ne _ (by omega), h.here]
  refine wpl_call _ _ _ rfl rfl (fun args => by kernel_rfl) ?_
  simp only [List.map_toArray, List.map_cons, List.map_nil]
  rw [eval_const, eval_const, eval_const, eval_const, eval_tmp, put_get _ (by rw [put_size]; omega)]
  refine (newreg_nil b _ _ _ w).mono ?_
  rintro e w1 ⟨rfl, hb1⟩
  refine ⟨_, rfl, ?_⟩
  refine wpl_iface _ _ rfl rfl (fun v => run_makeInterface w1 _ v (by kernel_rfl)) ?_
  rw [eval_tmp, put_get _ (by rw [put_size, put_size]; omega)]
  refine wpl_call _ _ _ rfl rfl (fun args => hn args _) ?_
  simp only [List.map_toArray, List.map_cons, List.map_nil]
  rw [eval_tmp, put_get _ (by rw [put_size, put_size, put_size]; omega)]
  have hv : (Value.agg #[.pointer (some ⟨b, 0, none⟩), .int .u16 (e0.idx : Nat), .string ⟨e0.name.toArray⟩, .int .u8 0, .int .u16 (e0.spec : Nat)]) = entV b e0 := by unfold entV; rw [h0]; rfl
  rw [hv]
  refine (hx3 w1).mono ?_
  rintro e w2 ⟨rfl, rfl⟩
  refine ⟨_, rfl, ?_⟩
  refine wpl_call _ _ _ rfl rfl (fun args => by kernel_rfl) ?_
  simp only [List.map_toArray, List.map_cons, List.map_nil]
  rw [eval_tmp, eval_tmp, put_get _ (by rw [put_size, put_size, put_size, put_size]; omega), put_ne _ (by omega), put_ne _ (by omega), put_ne _ (by omega), put_ne _ (by omega), put_get _ (by omega)]
  have hlen := fam_len k
  have hb0 : Below w0.heap.size w0 w1 := below_then h.below h.below.size hb1
  have hp1 := h.part.below hb1
  refine (add_any w0.heap.size b k _ e0 T x hx1 hx2 w1 hp1 (by rw [List.length_take]; omega)).mono ?_
  rintro e w3 ⟨rfl, hp3, hb3, _⟩
  refine ⟨_, rfl, ?_⟩
  refine wpList_nil (hQ _ _ ?_)
  have hk := fun v1 v2 v3 v4 v5 v6 => h.keep (kept6 (a := a) (v1 := v1) (v2 := v2) (v3 := v3) (v4 := v4) (v5 := v5) (v6 := v6) k1 (show 8 ≤ d2 by omega) (show 8 ≤ d3 by omega) (show 8 ≤ d4 by omega) (show 8 ≤ d5 by omega) (show 8 ≤ d6 by omega))
  exact ⟨(hk _ _ _ _ _ _).size, (hk _ _ _ _ _ _).kind, (hk _ _ _ _ _ _).here, (hk _ _ _ _ _ _).defers, by rw [← take_next he]; exact hp3, hb0.trans hb3⟩
end

/-- Which function makes an entry's value of a register's, by kind. -/
theorem mk1 (b : Nat) (e0 : Ent) : ∃ x, entI 1 b e0 = .iface 146 x ∧ (∀ w, (method 276 146 x "Kind").run Try.prog w = .ok (98, entV b e0) w) ∧
    ∀ w, Calls Try.prog 50 #[.iface 137 (entV b e0)] w fun e w' => e = .returned (.iface 146 x) ∧ w = w' :=
  ⟨_, rfl, fun _ => by unfold entV; kernel_rfl, fun w => newgpp_any _ _ w⟩
theorem mk2 (b : Nat) (e0 : Ent) : ∃ x, entI 2 b e0 = .iface 148 x ∧ (∀ w, (method 276 148 x "Kind").run Try.prog w = .ok (98, entV b e0) w) ∧
    ∀ w, Calls Try.prog 52 #[.iface 137 (entV b e0)] w fun e w' => e = .returned (.iface 148 x) ∧ w = w' :=
  ⟨_, rfl, fun _ => by unfold entV; kernel_rfl, fun w => newvecp_any _ _ w⟩
theorem mk3 (b : Nat) (e0 : Ent) : ∃ x, entI 3 b e0 = .iface 149 x ∧ (∀ w, (method 276 149 x "Kind").run Try.prog w = .ok (98, entV b e0) w) ∧
    ∀ w, Calls Try.prog 53 #[.iface 137 (entV b e0)] w fun e w' => e = .returned (.iface 149 x) ∧ w = w' :=
  ⟨_, rfl, fun _ => by unfold entV; kernel_rfl, fun w => newopmaskp_any _ _ w⟩
theorem mk0 (b : Nat) (e0 : Ent) : ∀ w, (method 276 137 (entV b e0) "Kind").run Try.prog w = .ok (98, entV b e0) w := fun _ => by unfold entV; kernel_rfl

theorem define_any (B b : Nat) (es : List Ent) (e0 : Ent) (h0 : e0.info = 0) (w : World) (hp : FamPart w B b 0 es) (hB : B ≤ w.heap.size) (hlen : es.length < 1000) :
    Calls Try.prog 48 #[.pointer (some ⟨b, 0, none⟩), .int .u16 (e0.spec : Nat), .int .u16 (e0.idx : Nat), .string ⟨e0.name.toArray⟩, .slice none 0 0] w fun e w' =>
      (∃ v, e = .returned v) ∧ FamPart w' B b 0 (es ++ [e0]) ∧ Below B w w' := by
  have hv : (Value.agg #[.pointer (some ⟨b, 0, none⟩), .int .u16 (e0.idx : Nat), .string ⟨e0.name.toArray⟩, .int .u8 0, .int .u16 (e0.spec : Nat)]) = entV b e0 := by unfold entV; rw [h0]; rfl
  have HV := Lib.hid hv
  have HP := Lib.hid hp
  have mI := fun (x : Value) (W : World) => run_makeInterface (P := Try.prog) W 137 x (by kernel_rfl)
  clear hv hp
  go_enter Try.func48, Try.ntmps48
  go_wp2_with (go_at_call 51; refine (newreg_nil b _ _ _ _).mono ?_; rintro e w1 ⟨rfl, hb1⟩)
  rw [HV.out]
  have hz := hb1.size
  have hb2 : Below w.heap.size w (w1.alloc (.cells #[.pointer (some ⟨b, 0, none⟩), .int .u16 (e0.idx : Nat), .string ⟨e0.name.toArray⟩, .int .u8 0, .int .u16 (e0.spec : Nat)] 137)) := hb1.alloc hb1.size _
  refine (add_any B b 0 es e0 137 (entV b e0) rfl (mk0 b e0) _ (HP.out.below hb2) hlen).mono ?_
  rintro e w2 ⟨rfl, hp2, hb3, hoff⟩
  have hbl : b < w.heap.size := World.block_lt_of_cell? w _ HP.out.kind
  have HL := Lib.hid (show w2.heap[w1.heap.size]? = some (.cells #[.pointer (some ⟨b, 0, none⟩), .int .u16 (e0.idx : Nat), .string ⟨e0.name.toArray⟩, .int .u8 0, .int .u16 (e0.spec : Nat)] 137) from by
    rw [hoff w1.heap.size (by simp) (by omega) (by intro cur fr; rw [heap_alloc_new]; simp)]; exact heap_alloc_new _ _)
  have hc : ∀ i x, (#[.pointer (some ⟨b, 0, none⟩), .int .u16 (e0.idx : Nat), .string ⟨e0.name.toArray⟩, .int .u8 0, .int .u16 (e0.spec : Nat)] : Array Value)[i]? = some x → w2.cell? ⟨w1.heap.size, i, none⟩ = some x := by
    intro i x hx
    simp [World.cell?, HL.out, hx]
  have c0 := hc 0 _ rfl
  have c1 := hc 1 _ rfl
  have c2 := hc 2 _ rfl
  have c3 := hc 3 _ rfl
  have c4 := hc 4 _ rfl
  have HF := Lib.hid (show Below B w w2 from (hb2.mono hB).trans hb3)
  have HP2 := Lib.hid hp2
  clear hc hoff hb3 hb2 hp2 hb1
  go_wp2
  go_ret
  exact ⟨⟨_, rfl⟩, HP2.out, HF.out⟩

section
variable {w0 w : World} {b k n : Nat} {a : Act} {id d1 d2 d3 d4 d5 d6 d7 : Nat} {y1 y2 y3 y4 y5 y6 y7 : TypeId} {p1 p2 p3 p4 p5 p6 p7 : String} {f1 f2 f3 f4 f5 f6 f7 : Array Edge} {s i fl : Int} {nm : ByteArray} {t3 t5 t6 : Array TypeId}
/-- The same with a flag. -/
theorem flag_row {newX T : Nat} (e0 : Ent) (he : (fam k)[n]? = some e0) (h1 : s = (e0.spec : Nat)) (h2 : i = (e0.idx : Nat)) (h3 : nm = ⟨e0.name.toArray⟩) (h0 : fl = (e0.info : Nat)) (hfl : e0.info < 256) (hx : ∀ e0, ∃ x, entI k b e0 = .iface T x ∧
      (∀ w, (method 276 T x "Kind").run Try.prog w = .ok (98, entV b e0) w) ∧ ∀ w, Calls Try.prog newX #[.iface 137 (entV b e0)] w fun e w' => e = .returned (.iface T x) ∧ w = w')
    (hn : ∀ args w, (callFunc newX args).run Try.prog w = .ok (.enter newX args) w) (h : FR w0 b k n a w)
    (hd : 8 ≤ d1 ∧ d1 < d2 ∧ d2 < d7 ∧ d7 < d3 ∧ d3 < d4 ∧ d4 < d5 ∧ d5 < d6 ∧ d6 < Try.f45.ntmps) :
    ∀ Q : Exit → Act → World → Prop, (∀ a' w', FR w0 b k (n + 1) a' w' → Q .normal a' w') →
    (Code.region id #[⟨some d1, .move (.tmp 3), y1, p1, f1, none⟩, ⟨some d2, .move (.tmp 3), y2, p2, f2, none⟩,
      ⟨some d7, .buildSlice 144 1 #[(0, .const (.int .u8 fl))], y7, p7, f7, none⟩,
      ⟨some d3, .call { callee := .value (.func 51), args := #[.tmp d2, .const (.int .u16 s), .const (.int .u16 i), .const (.string nm), .tmp d7], argTypes := t3 }, y3, p3, f3, none⟩,
      ⟨some d4, .makeInterface 137 (.tmp d3), y4, p4, f4, none⟩,
      ⟨some d5, .call { callee := .value (.func newX), args := #[.tmp d4], argTypes := t5 }, y5, p5, f5, none⟩,
      ⟨some d6, .call { callee := .value (.func 49), args := #[.tmp d1, .tmp d5], argTypes := t6 }, y6, p6, f6, none⟩] false).wp Try.prog Q a w := by
  intro Q hQ
  obtain ⟨k1, k2, k8, k3, k4, k5, k6, k7⟩ := hd
  have hs := h.size
  obtain ⟨x, hx1, hx2, hx3⟩ := hx e0
  subst h1; subst h2; subst h3; subst h0
  refine wp_region_list ?_
  refine wpl_move _ rfl rfl ?_
  refine wpl_move _ rfl rfl ?_
  rw [eval_tmp, eval_tmp, put_ne _ (by omega), h.here]
  refine wpList_plain rfl fun K hK => ?_
  have hbs : (execOp ((a.put (some d1) (.pointer (some ⟨b, 0, none⟩))).put (some d2) (.pointer (some ⟨b, 0, none⟩))).eval ⟨some d7, .buildSlice 144 1 #[(0, .const (.int .u8 (e0.info : Nat)))], y7, p7, f7, none⟩).run Try.prog w = .ok (.value (.slice (some ⟨w.heap.size, 0, none⟩) 1 1)) (w.alloc (.cells #[.int .u8 (e0.info : Nat)] 135)) := by
    simp only [execOp, List.map_toArray, List.map_cons, List.map_nil, eval_const]
    go_simp
  unfold Oper.wp
  rw [hbs]
  refine hK _ _ ?_
  have hb9 : Below w.heap.size w (w.alloc (.cells #[.int .u8 (e0.info : Nat)] 135)) := (Below.refl _ _).alloc (Nat.le_refl _) _
  refine wpl_call _ _ _ rfl rfl (fun args => by kernel_rfl) ?_
  simp only [List.map_toArray, List.map_cons, List.map_nil]
  rw [eval_const, eval_const, eval_const, eval_tmp, eval_tmp, put_get _ (by rw [put_size, put_size]; omega), put_ne _ (by omega), put_get _ (by rw [put_size]; omega)]
  refine (newreg_one b _ _ _ e0.info hfl _ w.heap.size (by simp)).mono ?_
  rintro e w1 ⟨rfl, hb1⟩
  refine ⟨_, rfl, ?_⟩
  refine wpl_iface _ _ rfl rfl (fun v => run_makeInterface w1 _ v (by kernel_rfl)) ?_
  rw [eval_tmp, put_get _ (by rw [put_size, put_size, put_size]; omega)]
  refine wpl_call _ _ _ rfl rfl (fun args => hn args _) ?_
  simp only [List.map_toArray, List.map_cons, List.map_nil]
  rw [eval_tmp, put_get _ (by rw [put_size, put_size, put_size, put_size]; omega)]
  refine (hx3 w1).mono ?_
  rintro e w2 ⟨rfl, rfl⟩
  refine ⟨_, rfl, ?_⟩
  refine wpl_call _ _ _ rfl rfl (fun args => by kernel_rfl) ?_
  simp only [List.map_toArray, List.map_cons, List.map_nil]
  rw [eval_tmp, eval_tmp, put_get _ (by rw [put_size, put_size, put_size, put_size, put_size]; omega), put_ne _ (by omega), put_ne _ (by omega), put_ne _ (by omega), put_ne _ (by omega), put_ne _ (by omega), put_get _ (by omega)]
  have hlen := fam_len k
  have hb0 : Below w0.heap.size w0 w1 := below_then h.below h.below.size (below_after hb9 hb1)
  have hp1 := h.part.below (below_after hb9 hb1)
  refine (add_any w0.heap.size b k _ e0 T x hx1 hx2 w1 hp1 (by rw [List.length_take]; omega)).mono ?_
  rintro e w3 ⟨rfl, hp3, hb3, _⟩
  refine ⟨_, rfl, ?_⟩
  refine wpList_nil (hQ _ _ ?_)
  have hk := fun v1 v2 v7 v3 v4 v5 v6 => h.keep ((kept6 (a := a) (v1 := v1) (v2 := v2) (v3 := v7) (v4 := v3) (v5 := v4) (v6 := v5) k1 (show 8 ≤ d2 by omega) (show 8 ≤ d7 by omega) (show 8 ≤ d3 by omega) (show 8 ≤ d4 by omega) (show 8 ≤ d5 by omega)).trans (.put (show 8 ≤ d6 by omega) v6))
  exact ⟨(hk _ _ _ _ _ _ _).size, (hk _ _ _ _ _ _ _).kind, (hk _ _ _ _ _ _ _).here, (hk _ _ _ _ _ _ _).defers, by rw [← take_next he]; exact hp3, hb0.trans hb3⟩

/-- 'f.define(SPEC, INDEX, NAME)'. -/
theorem define_row (e0 : Ent) (he : (fam 0)[n]? = some e0) (h1 : s = (e0.spec : Nat)) (h2 : i = (e0.idx : Nat)) (h3 : nm = ⟨e0.name.toArray⟩) (h0 : e0.info = 0) (h : FR w0 b 0 n a w)
    (hd : 8 ≤ d1 ∧ d1 < d2 ∧ d2 < Try.f45.ntmps) :
    ∀ Q : Exit → Act → World → Prop, (∀ a' w', FR w0 b 0 (n + 1) a' w' → Q .normal a' w') →
    (Code.region id #[⟨some d1, .move (.tmp 3), y1, p1, f1, none⟩,
      ⟨some d2, .call { callee := .value (.func 48), args := #[.tmp d1, .const (.int .u16 s), .const (.int .u16 i), .const (.string nm), .const (.slice none 0 0)], argTypes := t3 }, y2, p2, f2, none⟩] false).wp Try.prog Q a w := by
  intro Q hQ
  obtain ⟨k1, k2, k3⟩ := hd
  have hs := h.size
  subst h1; subst h2; subst h3
  refine wp_region_list ?_
  refine wpl_move _ rfl rfl ?_
  rw [eval_tmp, h.here]
  refine wpl_call _ _ _ rfl rfl (fun args => by kernel_rfl) ?_
  simp only [List.map_toArray, List.map_cons, List.map_nil]
  rw [eval_const, eval_const, eval_const, eval_const, eval_tmp, put_get _ (by omega)]
  have hlen := fam_len 0
  refine (define_any w0.heap.size b _ e0 h0 w h.part h.below.size (by rw [List.length_take]; omega)).mono ?_
  rintro e w3 ⟨⟨v, rfl⟩, hp3, hb3⟩
  refine ⟨_, rfl, ?_⟩
  refine wpList_nil (hQ _ _ ?_)
  have hk := fun v1 v2 => h.keep ((Kept1.put (d := d1) k1 v1).trans (.put (show 8 ≤ d2 by omega) v2))
  exact ⟨(hk _ _).size, (hk _ _).kind, (hk _ _).here, (hk _ _).defers, by rw [← take_next he]; exact hp3, h.below.trans hb3⟩
end

theorem fam_end {w0 w : World} {b k n : Nat} {a : Act} {id d1 : Nat} {y1 y2 : TypeId} {p1 p2 : String} {f1 f2 : Array Edge} (hl : (fam k).length = n) (h : FR w0 b k n a w) (hb : b = w0.heap.size) (hd : 8 ≤ d1 ∧ d1 < Try.f45.ntmps) (h2 : 2 < Try.f45.ntmps) :
    ((Code.region id #[⟨some d1, .move (.tmp 3), y1, p1, f1, none⟩, ⟨some 2, .assign (.tmp d1), y2, p2, f2, none⟩] false).seq Code.ret).wp Try.prog
      (bodyPost Try.prog Try.f45 fun e w' => e = .returned (.pointer (some ⟨w0.heap.size, 0, none⟩)) ∧ FamPart w' w0.heap.size w0.heap.size k (fam k) ∧ Below w0.heap.size w0 w') a w := by
  have hs := h.size
  have hat := h.here
  subst hb
  refine seq_row (R := fun a' w' => a'.tmps.getD 2 undef = .pointer (some ⟨w0.heap.size, 0, none⟩) ∧ a'.defers = [] ∧ w' = w) (fun Q hQ => ?_) (fun a' w' hr => ?_)
  · refine wp_region_list ?_
    refine wpl_move _ rfl rfl ?_
    refine wpl_assign _ rfl rfl ?_
    refine wpList_nil (hQ _ _ ⟨?_, h.defers, rfl⟩)
    rw [put_get _ (by rw [put_size]; omega), eval_tmp, put_get _ (by omega), eval_tmp, hat]
  · obtain ⟨h1, h2, rfl⟩ := hr
    refine wp_ret ⟨h2, _, results_tmp (t := 2) rfl _ _ _, ?_⟩
    rw [h1]
    exact ⟨rfl, by have := h.part; rw [List.take_of_length_le (by omega)] at this; exact this, h.below⟩

theorem family_start {c : Code} (k : Nat) (w : World) {R : Ending → World → Prop} {i0 i1 i2 : Nat} {y0 y1 y2 y3 y4 y5 : TypeId} {p0 p1 p2 p3 p4 p5 : String} {f0 f1 f2 f3 f4 f5 : Array Edge} {e : Code}
    (hb : Try.f45.body = some (Code.seq (Code.region i0 #[⟨some 2, .assign (.const (.pointer none)), y0, p0, f0, none⟩] false)
      (Code.seq (Code.region i1 #[⟨some 4, .move (.tmp 0), y1, p1, f1, none⟩, ⟨some 5, .build 129 #[(0, .tmp 4)], y2, p2, f2, none⟩, ⟨some 6, .box 129 (.tmp 5), y3, p3, f3, none⟩, ⟨some 3, .assign (.tmp 6), y4, p4, f4, none⟩] false)
        (Code.seq (Code.seq (Code.region i2 #[⟨some 7, .move (.tmp 0), y5, p5, f5, none⟩] false) c) e))))
    (h : ∀ a w', FR w w.heap.size k 0 a w' → c.wp Try.prog (Exit.then (e.wp Try.prog (bodyPost Try.prog Try.f45 R)) (bodyPost Try.prog Try.f45 R)) a w') :
    Calls Try.prog 45 #[.int .u8 k] w R := by
  refine calls_of_wp Try.func45 hb ?_
  have hN : Try.f45.ntmps = _ := Try.ntmps45
  generalize hM : Try.f45.ntmps = M at *
  have hM8 : 8 < M := by omega
  generalize ha : ({ tmps := #[Value.int .u8 k] ++ Array.replicate (M - (#[Value.int .u8 (k : Int)] : Array Value).size) undef, defers := [] } : Act) = a
  have hs : a.tmps.size = M := by subst ha; simp; omega
  have h0 : a.tmps.getD 0 undef = .int .u8 k := by subst ha; simp [Array.getD_eq_getD_getElem?, Array.getElem?_append]
  have hdf : a.defers = [] := by subst ha; rfl
  clear ha
  refine seq_row (R := fun a' w' => a'.tmps.size = M ∧ a'.tmps.getD 0 undef = .int .u8 k ∧ a'.defers = [] ∧ w' = w) (fun Q hQ => ?_) (fun a w' hr => ?_)
  · refine wp_region_list ?_
    refine wpl_assign _ rfl rfl ?_
    refine wpList_nil (hQ _ _ ⟨by rw [put_size]; exact hs, by rw [put_ne _ (by omega)]; exact h0, hdf, rfl⟩)
  obtain ⟨hs, h0, hdf, rfl⟩ := hr
  refine seq_row (R := fun a' w1 => a'.tmps.size = M ∧ a'.tmps.getD 0 undef = .int .u8 k ∧ a'.tmps.getD 3 undef = .pointer (some ⟨w'.heap.size, 0, none⟩) ∧ a'.defers = [] ∧ w1 = w'.alloc (.cells #[.int .u8 k, .slice none 0 0] 129)) (fun Q hQ => ?_) (fun a w1 hr => ?_)
  · refine wp_region_list ?_
    refine wpl_move _ rfl rfl ?_
    rw [eval_tmp, h0]
    refine wpl_value (.agg #[.int .u8 k, .slice none 0 0]) rfl ?_ ?_
    · simp only [execOp, List.map_toArray, List.map_cons, List.map_nil, eval_tmp]
      rw [put_get _ (by omega)]
      go_simp
    refine wpList_plain rfl fun K hK => ?_
    have hbs : ∀ x : Act, x.eval (.tmp 5) = .agg #[.int .u8 k, .slice none 0 0] → (execOp x.eval ⟨some 6, .box 129 (.tmp 5), y3, p3, f3, none⟩).run Try.prog w' = .ok (.value (.pointer (some ⟨w'.heap.size, 0, none⟩))) (w'.alloc (.cells #[.int .u8 k, .slice none 0 0] 129)) := by
      intro x hx
      simp only [execOp]
      rw [hx]
      go_simp
    unfold Oper.wp
    rw [hbs _ (by rw [eval_tmp, put_get _ (by rw [put_size]; omega)])]
    refine hK _ _ ?_
    refine wpl_assign _ rfl rfl ?_
    refine wpList_nil (hQ _ _ ⟨by rw [put_size, put_size, put_size, put_size]; exact hs, ?_, ?_, hdf, rfl⟩)
    · rw [put_ne _ (by omega), put_ne _ (by omega), put_ne _ (by omega), put_ne _ (by omega)]; exact h0
    · rw [put_get _ (by rw [put_size, put_size, put_size]; omega), eval_tmp, put_get _ (by rw [put_size, put_size]; omega)]
  obtain ⟨hs, h0, h3, hdf, rfl⟩ := hr
  have hb9 : Below w'.heap.size w' (w'.alloc (.cells #[.int .u8 k, .slice none 0 0] 129)) := (Below.refl _ _).alloc (Nat.le_refl _) _
  have hFR : ∀ Q : Exit → Act → World → Prop, (∀ a' w1, FR w' w'.heap.size k 0 a' w1 → Q .normal a' w1) → (Code.region i2 #[⟨some 7, .move (.tmp 0), y5, p5, f5, none⟩] false).wp Try.prog Q a (w'.alloc (.cells #[.int .u8 k, .slice none 0 0] 129)) := by
    intro Q hQ
    refine wp_region_list ?_
    refine wpl_move _ rfl rfl ?_
    rw [eval_tmp, h0]
    refine wpList_nil (hQ _ _ ⟨by rw [put_size, hM]; exact hs, by rw [put_get _ (by omega)], by rw [put_ne _ (by omega)]; exact h3, hdf, ⟨Nat.le_refl _, .slice none 0 0, heap_alloc_new _ _, World.ownsRow_nil _ _ _ _⟩, hb9⟩)
  exact wp_seq (wp_seq (hFR _ (fun a1 w1 h1 => h a1 w1 h1)))
end Go.Proofs.Ytomladkeanieeaa
