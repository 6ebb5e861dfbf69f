/- Words of our own on memory: an append of one value, a store into a block, what is kept. Plain lemmas; no program in sight. -/
import Derived.WalkKit
import Derived.WalkLawsBesides
import Derived.KernelRfl
import Derived.Lib.Hide
import Derived.Outline
import Derived.Deep.RegionHeld3
import Derived.Deep.QuietTactic
import Derived.BigQuiet
import Derived.Stop.Asserts
import Derived.Maps.AppendAt
import Derived.Deep.AppendLies
namespace Go.Proofs.Ytomladkeanieeaa
open Go.RowKit
set_option linter.unusedVariables false
set_option linter.unusedSimpArgs false

theorem below_drewN {B : Nat} {w W : World} (h : Below B w W) (n : Nat) : Below B w (W.drewN n) := ⟨h.os, h.tape, h.output, h.size, h.block⟩
theorem below_after {w w1 w2 : World} (h : Below w.heap.size w w1) (k : Below w1.heap.size w1 w2) : Below w.heap.size w w2 :=
  h.trans (k.mono h.size)
theorem below_then {B : Nat} {w w1 w2 : World} (h : Below B w w1) (hB : B ≤ w1.heap.size) (k : Below w1.heap.size w1 w2) : Below B w w2 :=
  h.trans (k.mono hB)
theorem grown_of_below {w w1 : World} (h : Below w.heap.size w w1) (row : Option Nat) : w.grownBy w1 row := ⟨h.os, h.tape, h.output, h.size, fun i hi _ => h.block i hi⟩
theorem cell_keep {w w1 : World} {a : Addr} {v : Value} (hb : Below w.heap.size w w1) (hc : w.cell? a = some v) : w1.cell? a = some v :=
  (hb.cell (World.block_lt_of_cell? w a hc)).trans hc
theorem frozen_keep {w w1 : World} {a : Addr} {v : Value} (hb : Below w.heap.size w w1) (hc : w.cell? a = some v) (hf : w.frozen? a = false) : w1.frozen? a = false :=
  (hb.frozen (World.block_lt_of_cell? w a hc)).trans hf
theorem there_of {w : World} {a : Addr} {v : Value} (hc : w.cell? a = some v) : (w.cell? a).isSome = true := by rw [hc]; rfl
theorem there_keep {w w1 : World} {a : Addr} (hb : Below w.heap.size w w1) (hc : (w.cell? a).isSome = true) : (w1.cell? a).isSome = true := by
  obtain ⟨v, hv⟩ := Option.isSome_iff_exists.1 hc
  exact there_of (cell_keep hb hv)
theorem thaw_keep {w w1 : World} {a : Addr} (hb : Below w.heap.size w w1) (hc : (w.cell? a).isSome = true) (hf : w.frozen? a = false) : w1.frozen? a = false := by
  obtain ⟨v, hv⟩ := Option.isSome_iff_exists.1 hc
  exact frozen_keep hb hv hf
theorem there_set {w : World} {a : Addr} {v : Value} (hc : (w.cell? a).isSome = true) : ((w.setCell a v).cell? a).isSome = true := by
  obtain ⟨u, hu⟩ := Option.isSome_iff_exists.1 hc
  rw [World.cell?_setCell_same _ _ _ hu]; rfl
theorem thaw_set {w : World} {a b : Addr} {v : Value} (hf : w.frozen? b = false) : (w.setCell a v).frozen? b = false := by simpa using hf
theorem blk_keep {w w1 : World} {b : Nat} {o : Obj} (hb : Below w.heap.size w w1) (h : w.heap[b]? = some o) : w1.heap[b]? = some o :=
  (hb.block b (Array.getElem?_eq_some_iff.1 h).1).trans h
theorem below_setRow {B : Nat} {a w : World} (h : Below B a w) {g : Nat} (hg : B ≤ g) (cs : Array Value) : Below B a (w.setRow g cs) :=
  h.trans ⟨rfl, rfl, rfl, by simp, fun k hk => setRow_other _ _ _ _ (by omega)⟩
theorem free_of_row {w : World} {g : Nat} {cs : Array Value} {T : TypeId} (h : w.heap[g]? = some (.cells cs T (0, 0))) (j : Nat) : w.frozen? ⟨g, j, none⟩ = false := by simp [World.frozen?, h]
theorem blk_alloc {w : World} {b : Nat} {o : Obj} (h : w.heap[b]? = some o) (o' : Obj) : (w.alloc o').heap[b]? = some o := blk_keep ((Below.refl _ _).alloc (Nat.le_refl _) _) h
theorem own_keep {w w1 : World} {base : Nat} {e : TypeId} {size n : Nat} {v : Value} {xs : List Value} (h : w.ownsRow base e size v n xs) (hb : Below w.heap.size w w1) : w1.ownsRow base e size v n xs :=
  h.kept (grown_of_below hb none) (by cases v.ownBlock <;> simp)
theorem own_base {w : World} {base : Nat} {e : TypeId} {size n : Nat} {v : Value} {xs : List Value} (h : w.ownsRow base e size v n xs) (k : Nat) (hk : v.ownBlock = some k) : base ≤ k := (h.lt k hk).1
theorem own_lower {w : World} {base base' : Nat} {e : TypeId} {size n : Nat} {v : Value} {xs : List Value} (h : w.ownsRow base e size v n xs) (hb : base' ≤ base) : w.ownsRow base' e size v n xs := by
  refine ⟨h.1, ?_⟩
  rcases h.2 with h3 | ⟨g, cap, cur, e1, e2, e3⟩
  · exact .inl h3
  · exact .inr ⟨g, cap, cur, e1, Nat.le_trans hb e2, e3⟩
/-- The block of a row is a row of its element type. -/
theorem own_type {w : World} {base : Nat} {e : TypeId} {size n : Nat} {v : Value} {xs : List Value} (h : w.ownsRow base e size v n xs) (k : Nat) (hk : v.ownBlock = some k) : ∃ cur, w.heap[k]? = some (.cells cur e (0, 0)) := by
  rcases h.2 with ⟨rfl, _⟩ | ⟨g, cap, cur, rfl, _, h1, _⟩
  · simp [Value.ownBlock] at hk
  · simp [Value.ownBlock] at hk
    subst hk
    exact ⟨cur, h1⟩
/-- A block of another type is not the row's block. -/
theorem own_ne {w : World} {base b : Nat} {e T : TypeId} {size n : Nat} {v : Value} {xs : List Value} {cs : Array Value} {fr : Nat × Nat} (h : w.ownsRow base e size v n xs) (hb : w.heap[b]? = some (.cells cs T fr)) (hT : T ≠ e) : v.ownBlock ≠ some b := by
  intro hk
  obtain ⟨cur, h1⟩ := own_type h b hk
  rw [h1] at hb
  injection hb with hb
  injection hb with _ h2
  exact hT h2.symm
theorem own_form {w : World} {base : Nat} {e : TypeId} {size n : Nat} {v : Value} {xs : List Value} (h : w.ownsRow base e size v n xs) (hn : 0 < n) : ∃ g c, v = .slice (some ⟨g, 0, none⟩) n c ∧ base ≤ g := by
  rcases h.2 with ⟨_, h0⟩ | ⟨g, cap, cur, rfl, hb, _⟩
  · omega
  · exact ⟨g, cap, rfl, hb⟩
theorem own_slice {w : World} {base : Nat} {e : TypeId} {size n : Nat} {v : Value} {xs : List Value} (h : w.ownsRow base e size v n xs) : ∃ A c, v = .slice A n c := by
  rcases h.2 with ⟨rfl, rfl⟩ | ⟨g, cap, cur, rfl, _⟩
  · exact ⟨none, 0, rfl⟩
  · exact ⟨_, cap, rfl⟩
theorem own_cell {w : World} {base g c : Nat} {e : TypeId} {n : Nat} {xs : List Value} (h : w.ownsRow base e 1 (.slice (some ⟨g, 0, none⟩) n c) n xs) (i : Nat) (x : Value) (hx : xs[i]? = some x) : w.cell? ⟨g, i, none⟩ = some x := by
  rcases h.2 with ⟨h0, _⟩ | ⟨g', cap, cur, e1, _, h1, _, _, h2, h3⟩
  · cases h0
  · injection e1 with e1 _ _
    injection e1 with e1
    injection e1 with e1 _ _
    subst e1
    subst h3
    have hi := (List.getElem?_eq_some_iff.1 hx).1
    simp at hi
    simp only [World.cell?, h1]
    rw [List.getElem?_take_of_lt (by omega)] at hx
    simpa using hx

theorem grown_setCell (w : World) (b i : Nat) (u : Value) : w.grownBy (w.setCell ⟨b, i, none⟩ u) (some b) :=
  ⟨rfl, rfl, rfl, by simp, fun k _ hk => Below.heap_setCell _ _ _ k (fun e => hk (by rw [e]))⟩
theorem below_grown {B : Nat} {w w1 : World} {row : Option Nat} (hg : w.grownBy w1 row) (hB : B ≤ w.heap.size) (hr : ∀ k, row = some k → B ≤ k) : Below B w w1 := (Below.refl B w).grown hg hB hr

/-- 'append(v, y)', y a value of one cell, v a row of the call's own; behind 'at_builtin'. -/
theorem wp_append_one {P : Program} {ops : Array Oper} {rest : List Oper} {o : Oper} {a : Act} {Q : Exit → Act → World → Prop} {W : World}
    (base : Nat) (hgd : o.guard = none) (s x : Operand) (t e : TypeId) (z : Value) (bytes : Nat)
    (ho : o.op = .call { callee := .builtin .append, args := #[s, x], argTypes := #[t, t] })
    (ht : P.underlying t = some (.slice e)) (hinfo : (P.info? e).map (fun i => (i.zero, i.size, i.bytes)) = some (some z, 1, bytes)) (hz : z.cells.size = 1) (hb0 : 0 < bytes)
    (v : Value) (n : Nat) (xs : List Value) (y : Value) (hs : a.eval s = v) (hx : a.eval x = .slice (some ⟨W.heap.size, 0, none⟩) 1 1) (h1 : y.oneCell' = true)
    (HO : W.ownsRow base e 1 v n xs) (hbase : base ≤ W.heap.size) (hl : (n + 1) * bytes ≤ 140737488355328)
    (h : ∀ g c w1, w1.ownsRow base e 1 (.slice (some ⟨g, 0, none⟩) (n + 1) c) (n + 1) (xs ++ [y]) → W.grownBy w1 v.ownBlock → wpList P ops Q rest (a.put o.dst (.slice (some ⟨g, 0, none⟩) (n + 1) c)) w1) :
    wpList P ops Q (o :: rest) a (W.alloc (.cells #[y] e)) := by
  obtain ⟨i0, hi, hzz⟩ := Option.map_eq_some_iff.1 hinfo
  simp only [Prod.mk.injEq] at hzz
  obtain ⟨hz0, hz1, hz2⟩ := hzz
  have hlen : n + 1 ≤ 140737488355328 := Nat.le_trans (Nat.le_mul_of_pos_right _ hb0) hl
  refine wpList_append_own (W.alloc (.cells #[y] e)) hgd s x t ho base e i0 z 1 bytes ht hi hz0 hz1 hz2 hz (by omega) v n xs hs (HO.alloc _) ⟨W.heap.size, 0, none⟩ 1 1 [y] hx rfl
    (World.news_of_block (cs := #[y]) (t := e) (fr := (0, 0)) (heap_alloc_new W _)) (by simpa using h1) (by simp only [maxLen]; omega) hl (by simp; omega) ?_
  intro v1 w1 hown hg _
  obtain ⟨g, c, rfl, _⟩ := own_form hown (by omega)
  exact h g c w1 hown (World.grownBy.trans (World.grownBy_alloc W _ _) hg)
end Go.Proofs.Ytomladkeanieeaa
