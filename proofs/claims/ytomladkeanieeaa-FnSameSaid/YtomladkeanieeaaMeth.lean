/- The registers' own methods: what a call of a method on a register's value comes to. No condition but that the families lie where the map says. -/
import Derived.Test.YtomladkeanieeaaBase
namespace Go.Proofs.Ytomladkeanieeaa
open Go.RowKit
set_option linter.unusedVariables false
set_option linter.unusedSimpArgs false

/-- A family that is being filled: its block, the registers so far. -/
def FamPart (w : World) (B b k : Nat) (es : List Ent) : Prop :=
  B ≤ b ∧ ∃ v, w.heap[b]? = some (.cells #[.int .u8 k, v] 129 (0, 0)) ∧ w.ownsRow B 95 1 v es.length (es.map (entI k b))
def FamAt (w : World) (k b : Nat) : Prop := FamPart w 0 b k (fam k)
def FamsAt (w : World) (F : Nat → Option Nat) : Prop := ∀ k b, F k = some b → FamAt w k b
/-- The register is virtual, or its family lies somewhere and has it. -/
def Known (F : Nat → Option Nat) (r : Rg) : Prop := r.virt = true ∨ (r.virt = false ∧ has r.kind r.idx r.spec = true ∧ ∃ b, F r.kind = some b)

theorem FamPart.kind {w : World} {B b k : Nat} {es : List Ent} (h : FamPart w B b k es) : w.cell? ⟨b, 0, none⟩ = some (.int .u8 k) := by
  obtain ⟨_, v, h1, _⟩ := h
  simp [World.cell?, h1]
theorem FamPart.below {w w' : World} {B b k : Nat} {es : List Ent} (h : FamPart w B b k es) (hb : Below w.heap.size w w') : FamPart w' B b k es := by
  obtain ⟨h0, v, h1, h2⟩ := h
  have hlt := (Array.getElem?_eq_some_iff.1 h1).1
  refine ⟨h0, v, by rw [hb.block _ hlt]; exact h1, ?_⟩
  exact h2.kept (row := none) ⟨hb.os, hb.tape, hb.output, hb.size, fun i hi _ => hb.block i hi⟩ (by cases v.ownBlock <;> simp)
theorem FamPart.mono {w : World} {B B' b k : Nat} {es : List Ent} (h : FamPart w B b k es) (hB : B' ≤ B) : FamPart w B' b k es := by
  obtain ⟨h0, v, h1, h2, h3⟩ := h
  refine ⟨Nat.le_trans hB h0, v, h1, h2, ?_⟩
  rcases h3 with h3 | ⟨g, cap, cur, e1, e2, e3⟩
  · exact .inl h3
  · exact .inr ⟨g, cap, cur, e1, Nat.le_trans hB e2, e3⟩
theorem FamsAt.below {w w' : World} {F : Nat → Option Nat} (h : FamsAt w F) (hb : Below w.heap.size w w') : FamsAt w' F := fun k b hk => (h k b hk).below hb

theorem or_disj (a b i : Nat) (h : b < 2 ^ i) : b ||| (a * 2 ^ i) = b + a * 2 ^ i := by
  rw [Nat.or_comm, ← Nat.shiftLeft_eq, ← Nat.shiftLeft_add_eq_or_of_lt h, Nat.add_comm]
theorem id_bits (v k i : Nat) (hv : v < 2) (hk : k < 256) (hi : i < 65536) :
    bits BinOp.or IntKind.u32 (bits BinOp.or IntKind.u32 (v : Int) ((k : Int) * 256)) ((i : Int) * 65536) = ((idN v k i : Nat) : Int) := by
  have e1 : ((k : Int) * 256) = ((k * 2 ^ 8 : Nat) : Int) := by omega
  have e2 : ((i : Int) * 65536) = ((i * 2 ^ 16 : Nat) : Int) := by omega
  rw [e1, u32_or_nat _ _ (by omega) (by omega), or_disj _ _ _ (by omega), e2, u32_or_nat _ _ (by omega) (by omega), or_disj _ _ _ (by omega)]
  unfold idN
  omega

theorem newid_any (v k i : Nat) (hv : v < 2) (hk : k < 256) (hi : i < 65536) (w : World) :
    Calls Try.prog 85 #[.int .u8 v, .int .u8 k, .int .u16 i] w fun e w' => e = .returned (.int .u32 (idN v k i : Nat)) ∧ w = w' := by
  have h := Lib.hid (id_bits v k i hv hk hi)
  go_enter Try.func85, Try.ntmps85
  go_wp2
  go_ret
  exact ⟨congrArg (fun x => Ending.returned (.int .u32 x)) h.out, rfl⟩

theorem vid_any (r : Rg) (hr : r.ok) (w : World) :
    Calls Try.prog 79 #[virtV r] w fun e w' => e = .returned (.int .u32 (idN 1 r.kind r.idx : Nat)) ∧ Below w.heap.size w w' := by
  obtain ⟨h1, h2, h3⟩ := hr
  unfold virtV
  go_enter Try.func79, Try.ntmps79
  go_wp2_with (go_at_call 85; refine (newid_any 1 _ _ (by omega) (by omega) (by omega) _).mono ?_; rintro e w' ⟨rfl, rfl⟩)
  go_ret
  exact ⟨rfl, (Below.refl _ _).alloc (Nat.le_refl _) _⟩
theorem vkind_any (r : Rg) (w : World) :
    Calls Try.prog 80 #[virtV r] w fun e w' => e = .returned (.int .u8 r.kind) ∧ Below w.heap.size w w' := by
  unfold virtV
  go_enter Try.func80, Try.ntmps80
  go_wp2
  go_ret
  exact ⟨rfl, (Below.refl _ _).alloc (Nat.le_refl _) _⟩
theorem vidx_any (r : Rg) (w : World) :
    Calls Try.prog 81 #[virtV r] w fun e w' => e = .returned (.int .u16 r.idx) ∧ Below w.heap.size w w' := by
  unfold virtV
  go_enter Try.func81, Try.ntmps81
  go_wp2
  go_ret
  exact ⟨rfl, (Below.refl _ _).alloc (Nat.le_refl _) _⟩
theorem mask_any (s : Int) (w : World) :
    Calls Try.prog 54 #[.int .u16 s] w fun e w' => e = .returned (.int .u16 s) ∧ w = w' := by
  go_enter Try.func54, Try.ntmps54
  go_wp2
  go_ret
  exact ⟨rfl, rfl⟩
theorem rkind_any (b k : Nat) (e0 : Ent) (w : World) (hc : w.cell? ⟨b, 0, none⟩ = some (.int .u8 k)) :
    Calls Try.prog 98 #[entV b e0] w fun e w' => e = .returned (.int .u8 k) ∧ Below w.heap.size w w' := by
  have hlt : b < w.heap.size := World.block_lt_of_cell? w _ hc
  unfold entV
  go_enter Try.func98, Try.ntmps98
  go_wp2
  go_ret
  exact ⟨rfl, (Below.refl _ _).alloc (Nat.le_refl _) _⟩
theorem ridx_any (b : Nat) (e0 : Ent) (w : World) :
    Calls Try.prog 99 #[entV b e0] w fun e w' => e = .returned (.int .u16 e0.idx) ∧ Below w.heap.size w w' := by
  unfold entV
  go_enter Try.func99, Try.ntmps99
  go_wp2
  go_ret
  exact ⟨rfl, (Below.refl _ _).alloc (Nat.le_refl _) _⟩
end Go.Proofs.Ytomladkeanieeaa
