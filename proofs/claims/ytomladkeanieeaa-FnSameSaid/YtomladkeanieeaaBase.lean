/- Registers as plain data: what the families hold, what a register's value is, and small facts on them. No condition. -/
import Derived.Test.YtomladkeanieeaaProg
import Derived.Test.YtomladkeanieeaaWords
namespace Go.Proofs.Ytomladkeanieeaa
open Go.RowKit
set_option linter.unusedVariables false
set_option linter.unusedSimpArgs false

/-- A register as plain data. -/
structure Rg where
  virt : Bool
  kind : Nat
  idx : Nat
  spec : Nat
  deriving DecidableEq

def Rg.ok (r : Rg) : Prop := r.kind < 256 ∧ r.idx < 65536 ∧ r.spec < 65536
abbrev Rg.val (r : Rg) : Value := .agg #[.bool r.virt, .int .u8 r.kind, .int .u16 r.idx, .int .u16 r.spec]
def Rg.zero : Rg := ⟨false, 0, 0, 0⟩

/-- An entry of a family. -/
structure Ent where
  idx : Nat
  spec : Nat
  name : List UInt8
  info : Nat
  deriving DecidableEq

def digits (n : Nat) : List UInt8 := if n < 10 then [48 + n.toUInt8] else [48 + (n / 10).toUInt8, 48 + (n % 10).toUInt8]
def low : Nat → List UInt8
  | 0 => [65, 88] | 1 => [67, 88] | 2 => [68, 88] | 3 => [66, 88] | 4 => [83, 80] | 5 => [66, 80] | 6 => [83, 73] | 7 => [68, 73]
  | n => 82 :: digits n
def gpInfo : Nat → Nat | 4 => 2 | 5 => 4 | _ => 0
def gp (spec i : Nat) : Ent := ⟨i, spec, low i, gpInfo i⟩
def ent1 (spec i : Nat) (name : List UInt8) : Ent := ⟨i, spec, name, 0⟩
/-- The registers of a family, in its order. -/
def fam : Nat → List Ent
  | 0 => [ent1 0 0 [70, 80], ent1 0 0 [80, 67], ent1 0 0 [83, 66], ent1 0 0 [83, 80]]
  | 1 => [ent1 1 0 [65, 76], ent1 1 1 [67, 76], ent1 1 2 [68, 76], ent1 1 3 [66, 76], ent1 2 0 [65, 72], ent1 2 1 [67, 72], ent1 2 2 [68, 72], ent1 2 3 [66, 72]]
      ++ ((List.range' 4 12).map (gp 1)) ++ ((List.range 16).map (gp 3)) ++ ((List.range 16).map (gp 7)) ++ ((List.range 16).map (gp 15))
  | 2 => ((List.range 32).map fun i => ent1 31 i (88 :: digits i)) ++ ((List.range 32).map fun i => ent1 63 i (89 :: digits i)) ++ ((List.range 32).map fun i => ent1 127 i (90 :: digits i))
  | 3 => (List.range 8).map fun i => ⟨i, 15, 75 :: digits i, if i = 0 then 2 else 0⟩
  | _ => []

/-- The first register of a family with an index and a spec. -/
def phys (k i s : Nat) : Option Ent := (fam k).find? fun e => e.idx == i && e.spec == s

/-- A family has a register of an index and a spec. -/
def has (k i s : Nat) : Bool :=
  match k with
  | 0 => i == 0 && s == 0
  | 1 => if s == 2 then decide (i < 4) else decide (i < 16) && (s == 1 || s == 3 || s == 7 || s == 15)
  | 2 => decide (i < 32) && (s == 31 || s == 63 || s == 127)
  | 3 => decide (i < 8) && s == 15
  | _ => false

theorem fam_has : ∀ k, k < 4 → (fam k).all (fun e => has k e.idx e.spec) = true := by decide
theorem has_lt {k i s : Nat} (h : has k i s = true) : k < 4 ∧ i < 32 ∧ s < 128 := by
  unfold has at h
  split at h
  · simp at h; omega
  · split at h <;> simp at h <;> simp_all <;> omega
  · simp at h; omega
  · simp at h; omega
  · cases h
theorem has_phys_all : (List.range 4).all (fun k => (List.range 32).all fun i => (List.range 128).all fun s => !has k i s || (phys k i s).isSome) = true := by decide +kernel
theorem phys_of_has {k i s : Nat} (h : has k i s = true) : ∃ e, phys k i s = some e ∧ e.idx = i ∧ e.spec = s := by
  obtain ⟨hk, hi, hs⟩ := has_lt h
  have h1 := List.all_eq_true.1 (List.all_eq_true.1 (List.all_eq_true.1 has_phys_all k (by simpa using hk)) i (by simpa using hi)) s (by simpa using hs)
  simp only [h, Bool.not_true, Bool.false_or] at h1
  obtain ⟨e, he⟩ := Option.isSome_iff_exists.1 h1
  have h2 := List.find?_some he
  simp at h2
  exact ⟨e, he, h2.1, h2.2⟩
theorem has_of_phys {k i s : Nat} {e : Ent} (h : phys k i s = some e) : has k i s = true := by
  have hk : k < 4 := by
    rcases Nat.lt_or_ge k 4 with hk | hk
    · exact hk
    · obtain ⟨m, rfl⟩ : ∃ m, k = m + 4 := ⟨k - 4, by omega⟩
      simp [phys, fam] at h
  have h1 := List.all_eq_true.1 (fam_has k hk) e (List.mem_of_find?_eq_some h)
  have h2 := List.find?_some h
  simp at h2
  rw [h2.1, h2.2] at h1
  exact h1
theorem phys_none {k i s : Nat} (h : has k i s = false) : phys k i s = none := by
  cases hp : phys k i s with
  | none => rfl
  | some e => rw [has_of_phys hp] at h; cases h

/-- There is such a register. -/
def isReg (r : Rg) : Bool := r.virt || has r.kind r.idx r.spec
/-- A register's number. -/
def idN (v k i : Nat) : Nat := v + 256 * k + 65536 * i
def regId (r : Rg) : Nat := idN (if r.virt then 1 else 0) r.kind r.idx

theorem regId_inj {a b : Rg} (ha : a.ok) (hb : b.ok) (h : regId a = regId b) : a.virt = b.virt ∧ a.kind = b.kind ∧ a.idx = b.idx := by
  obtain ⟨va, ka, ia, sa⟩ := a
  obtain ⟨vb, kb, ib, sb⟩ := b
  simp only [Rg.ok, regId, idN] at *
  cases va <;> cases vb <;> simp at h ⊢ <;> omega

/-! ### values -/
def virtV (r : Rg) : Value := .agg #[.int .u16 r.idx, .int .u8 r.kind, .int .u16 r.spec]
def entV (b : Nat) (e : Ent) : Value := .agg #[.pointer (some ⟨b, 0, none⟩), .int .u16 e.idx, .string ⟨e.name.toArray⟩, .int .u8 e.info, .int .u16 e.spec]
/-- What a collection's registers are, by their kind. -/
def virtI (r : Rg) : Value :=
  match r.kind with
  | 1 => .iface 123 (.agg #[.iface 120 (virtV r)])
  | 2 => .iface 125 (.agg #[.iface 120 (virtV r), .nilIface])
  | 3 => .iface 126 (.agg #[.iface 120 (virtV r)])
  | _ => .iface 120 (virtV r)
/-- What a family's registers are. -/
def entI (k b : Nat) (e : Ent) : Value :=
  match k with
  | 1 => .iface 146 (.agg #[.iface 137 (entV b e)])
  | 2 => .iface 148 (.agg #[.iface 137 (entV b e), .nilIface])
  | 3 => .iface 149 (.agg #[.iface 137 (entV b e)])
  | _ => .iface 137 (entV b e)
/-- A register's value, the families lying at F. -/
def rgV (F : Nat → Option Nat) (r : Rg) : Value :=
  if r.virt then virtI r else
    match phys r.kind r.idx r.spec with
    | some e => entI r.kind ((F r.kind).getD 0) e
    | none => .nilIface
end Go.Proofs.Ytomladkeanieeaa
