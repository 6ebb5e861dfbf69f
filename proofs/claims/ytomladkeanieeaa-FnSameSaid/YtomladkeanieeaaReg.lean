/- Registers of plain data made by a world, and told again as plain data. -/
import Derived.Test.YtomladkeanieeaaWorld
namespace Go.Proofs.Ytomladkeanieeaa
open Go.RowKit
set_option linter.unusedVariables false
set_option linter.unusedSimpArgs false

/-- A method of a value, called: which function that is, and what it gives. -/
def Meth (F : Nat → Option Nat) (t : Nat) (x : Value) (name : String) (res : Value) : Prop :=
  ∃ f a, (∀ w, (method 276 t x name).run Try.prog w = .ok (f, a) w) ∧ (∀ w, (callFunc f #[a]).run Try.prog w = .ok (.enter f #[a]) w) ∧
    ∀ w, FamsAt w F → Calls Try.prog f #[a] w fun e w' => e = .returned res ∧ Below w.heap.size w w'

/-- What is known of a register's value. -/
structure RgM (F : Nat → Option Nat) (r : Rg) (t : Nat) (x : Value) : Prop where
  val : rgV F r = .iface t x
  id : Meth F t x "ID" (.int .u32 (regId r : Nat))
  kind : Meth F t x "Kind" (.int .u8 r.kind)
  mask : Meth F t x "Mask" (.int .u16 r.spec)
  vidx : r.virt = true → Meth F t x "VirtualIndex" (.int .u16 r.idx)
  pidx : r.virt = false → Meth F t x "PhysicalIndex" (.int .u16 r.idx)
  toV : ∀ w T, (Instr.typeAssert (.iface t x) T 66 true).run Try.prog w = .ok (.tuple #[if r.virt then .iface t x else .nilIface, .bool r.virt]) w
  toP : ∀ w T, (Instr.typeAssert (.iface t x) T 95 true).run Try.prog w = .ok (.tuple #[if r.virt then .nilIface else .iface t x, .bool (!r.virt)]) w

theorem rid_any (b k : Nat) (hk : k < 256) (e0 : Ent) (hi : e0.idx < 65536) (w : World) (hc : w.cell? ⟨b, 0, none⟩ = some (.int .u8 k)) :
    Calls Try.prog 96 #[entV b e0] w fun e w' => e = .returned (.int .u32 (idN 0 k e0.idx : Nat)) ∧ Below w.heap.size w w' := by
  have hlt : b < w.heap.size := World.block_lt_of_cell? w _ hc
  have hv : entV b e0 = .agg #[.pointer (some ⟨b, 0, none⟩), .int .u16 e0.idx, .string ⟨e0.name.toArray⟩, .int .u8 e0.info, .int .u16 e0.spec] := rfl
  rw [hv]
  have HV := Lib.hid hv
  clear hv
  go_enter Try.func96, Try.ntmps96
  go_wp2_with (fail)
  go_region_with ((first | (go_at_call 98; rw [← HV.out]; refine (rkind_any b k e0 _ (by simp; first | exact hc | (rw [World.cell?_alloc_old _ _ _ (by simp; omega)]; exact hc))).mono ?_; rintro e w1 ⟨rfl, hb1⟩; rw [HV.out]; have c1 := cell_keep hb1 (World.cell?_alloc_new w #[.pointer (some ⟨b, 0, none⟩), .int .u16 e0.idx, .string ⟨e0.name.toArray⟩, .int .u8 e0.info, .int .u16 e0.spec] 137 1)) | (go_at_call 85; refine (newid_any 0 k e0.idx (by omega) (by omega) (by omega) _).mono ?_; rintro e w1 ⟨rfl, rfl⟩)))
  all_goals
    go_wp2
    go_ret
    exact ⟨rfl, below_after (by repeat (first | exact Below.refl _ _ | assumption | refine Below.drew ?_ | refine below_drewN ?_ _ | refine Below.alloc ?_ (by simp; try omega) _ | refine Below.setCell ?_ (by simp; try omega) _ | refine below_setRow ?_ (by simp; try omega) _)) hb1⟩

theorem newvirtual_any (i k s : Int) (w : World) :
    Calls Try.prog 39 #[.int .u16 i, .int .u8 k, .int .u16 s] w fun e w' => e = .returned (.iface 120 (.agg #[.int .u16 i, .int .u8 k, .int .u16 s])) ∧ w = w' := by
  have mI := fun (x : Value) => run_makeInterface (P := Try.prog) w 120 x (by kernel_rfl)
  go_enter Try.func39, Try.ntmps39
  go_wp2
  go_ret
  exact ⟨rfl, rfl⟩
theorem newgpv_any (t : Nat) (v : Value) (w : World) : Calls Try.prog 42 #[.iface t v] w fun e w' => e = .returned (.iface 123 (.agg #[.iface t v])) ∧ w = w' := by
  have k1 := fun x => run_makeInterface (P := Try.prog) w 123 x (by kernel_rfl)
  go_enter Try.func42, Try.ntmps42
  go_wp2
  go_ret
  exact ⟨rfl, rfl⟩
theorem newvecv_any (t : Nat) (v : Value) (w : World) : Calls Try.prog 43 #[.iface t v] w fun e w' => e = .returned (.iface 125 (.agg #[.iface t v, .nilIface])) ∧ w = w' := by
  have k1 := fun x => run_makeInterface (P := Try.prog) w 125 x (by kernel_rfl)
  go_enter Try.func43, Try.ntmps43
  go_wp2
  go_ret
  exact ⟨rfl, rfl⟩
theorem newopmaskv_any (t : Nat) (v : Value) (w : World) : Calls Try.prog 44 #[.iface t v] w fun e w' => e = .returned (.iface 126 (.agg #[.iface t v])) ∧ w = w' := by
  have k1 := fun x => run_makeInterface (P := Try.prog) w 126 x (by kernel_rfl)
  go_enter Try.func44, Try.ntmps44
  go_wp2
  go_ret
  exact ⟨rfl, rfl⟩
theorem zzvirtual_any (k i s : Nat) (w : World) :
    Calls Try.prog 35 #[.int .u8 k, .int .u16 i, .int .u16 s] w fun e w' => e = .returned (virtI ⟨true, k, i, s⟩) ∧ w = w' := by
  by_cases h1 : k = 1
  · subst h1
    go_enter Try.func35, Try.ntmps35
    go_wp2_with (first | (go_at_call 39; refine (newvirtual_any _ _ _ _).mono ?_; rintro e w1 ⟨rfl, rfl⟩) | (go_at_call 42; refine (newgpv_any _ _ _).mono ?_; rintro e w1 ⟨rfl, rfl⟩))
    go_ret
    exact ⟨rfl, rfl⟩
  by_cases h2 : k = 2
  · subst h2
    go_enter Try.func35, Try.ntmps35
    go_wp2_with (first | (go_at_call 39; refine (newvirtual_any _ _ _ _).mono ?_; rintro e w1 ⟨rfl, rfl⟩) | (go_at_call 43; refine (newvecv_any _ _ _).mono ?_; rintro e w1 ⟨rfl, rfl⟩))
    go_ret
    exact ⟨rfl, rfl⟩
  by_cases h3 : k = 3
  · subst h3
    go_enter Try.func35, Try.ntmps35
    go_wp2_with (first | (go_at_call 39; refine (newvirtual_any _ _ _ _).mono ?_; rintro e w1 ⟨rfl, rfl⟩) | (go_at_call 44; refine (newopmaskv_any _ _ _).mono ?_; rintro e w1 ⟨rfl, rfl⟩))
    go_ret
    exact ⟨rfl, rfl⟩
  have q1 : ((k : Int) == 1) = false := by simp; omega
  have q2 : ((k : Int) == 2) = false := by simp; omega
  have q3 : ((k : Int) == 3) = false := by simp; omega
  have hv : virtI ⟨true, k, i, s⟩ = .iface 120 (.agg #[.int .u16 i, .int .u8 k, .int .u16 s]) := by
    unfold virtI
    split <;> first | rfl | (rename_i h; exact absurd h (by assumption))
  have HV := Lib.hid hv
  clear hv h1 h2 h3
  go_enter Try.func35, Try.ntmps35
  go_wp2_with (go_at_call 39; refine (newvirtual_any _ _ _ _).mono ?_; rintro e w1 ⟨rfl, rfl⟩)
  go_ret
  exact ⟨by rw [HV.out]; rfl, rfl⟩
theorem newworld_any (w : World) :
    Calls Try.prog 21 #[] w fun e w' => e = .returned (.pointer (some ⟨w.heap.size, 0, none⟩)) ∧ w' = w.alloc (.cells (famCells NoFam) 91) := by
  have hc : famCells NoFam = #[.pointer none, .pointer none, .pointer none, .pointer none] := rfl
  have HC := Lib.hid hc
  clear hc
  go_enter Try.func21, Try.ntmps21
  go_wp2
  go_ret
  exact ⟨rfl, by rw [HC.out]⟩
theorem worldAt_new (w : World) : WorldAt (w.alloc (.cells (famCells NoFam) 91)) w.heap.size NoFam :=
  ⟨heap_alloc_new _ _, fun k b h => by simp [NoFam] at h, fun k b h => by simp [NoFam] at h⟩
end Go.Proofs.Ytomladkeanieeaa
