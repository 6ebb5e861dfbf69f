/-
  No cell of these rows narrows 'for every input' (looked for: loops, veiled, ifaces, maps, wideKeys, modest, calm, conditions, laid).
  DERIVED. THE GIVEN ROWS OF THIS SEAT. 5 by the template 'for every input the law returns true; each argument reads behind the call as it read before'; 0 by the template 'total and deterministic' (their statements: YtomladkeanieeaaTotals.lean).
  GIVEN WITH THE SEED: the statements are not yours to turn. If you find one false, say at which input.
  Laid BY PROGRAM, IN A SANDBOX (cutbox-rows.mjs): the forced cells as the released guide's own fill.sh prints them over the translation e587a6928f3da402… (all of the seat's roots in one cut). By AI agents, Wed Nov 11 2026. No macro, syntax, notation, axiom, sorry.
-/
import Derived.Test.YtomladkeanieeaaChecked
import GoSem.Claim
import GoSem.ClaimJoined
import GoSem.ClaimMapViews
import Derived.JoinedTies
import Derived.KernelRfl
namespace Go.Proofs.Ytomladkeanieeaa
/- THE CELL 'sum', in the pinned program and in every row, IS THE sha256 OF THE DUMP (.gsa) THAT YtomladkeanieeaaProg.lean LOADS. Nothing in Lean hashes anything: it is a label: what it is worth is what the hold of that sum in a sandbox is worth. -/
noncomputable def Try.pinned : Pinned := { name := "ytomladkeanieeaa", sum := "e587a6928f3da402f0cce1f9c5bd1248de3c7c2479d140bf655dbdd64678c7bd", checked := Try.checked }
namespace Rows
def none {H : Type} : Left H := { results := [], args := [] }

/-- 'laws.FnNumbersDiffer': WHATEVER THE INPUT: true; the input reads as it did. -/
def fnNumbersDifferSpec : ChangeSpec := { name := "fnNumbersDiffer", fn := fun _ => fun
  | [d1, d2] => { results := [.lit (.bool true)], args := [d1, d2] }
  | _ => none }
def fnNumbersDifferRow : OpenClaim := { program := "ytomladkeanieeaa", sum := "e587a6928f3da402f0cce1f9c5bd1248de3c7c2479d140bf655dbdd64678c7bd", func := "pub-berthage/laws.FnNumbersDiffer", spec := "fnNumbersDiffer", unfollowed := true, recurses := true, apart := false }
def FnNumbersDifferSaid : Prop := fnNumbersDifferRow.holds Try.pinned (OpenSpec.ofChange fnNumbersDifferSpec)

/-- ITS FALSE NEIGHBOUR: 'it returns false'. Refute it at one input. -/
def fnNumbersDifferWrong : ChangeSpec := { name := "fnNumbersDiffer", fn := fun _ => fun
  | [d1, d2] => { results := [.lit (.bool false)], args := [d1, d2] }
  | _ => none }
def FnNumbersDifferWrongFalsely : Prop := fnNumbersDifferRow.holds Try.pinned (OpenSpec.ofChange fnNumbersDifferWrong)

/-- 'laws.FnSame': WHATEVER THE INPUT: true; the input reads as it did. -/
def fnSameSpec : ChangeSpec := { name := "fnSame", fn := fun _ => fun
  | [d1, d2] => { results := [.lit (.bool true)], args := [d1, d2] }
  | _ => none }
def fnSameRow : OpenClaim := { program := "ytomladkeanieeaa", sum := "e587a6928f3da402f0cce1f9c5bd1248de3c7c2479d140bf655dbdd64678c7bd", func := "pub-berthage/laws.FnSame", spec := "fnSame", unfollowed := true, recurses := true, apart := false }
def FnSameSaid : Prop := fnSameRow.holds Try.pinned (OpenSpec.ofChange fnSameSpec)

/-- ITS FALSE NEIGHBOUR: 'it returns false'. Refute it at one input. -/
def fnSameWrong : ChangeSpec := { name := "fnSame", fn := fun _ => fun
  | [d1, d2] => { results := [.lit (.bool false)], args := [d1, d2] }
  | _ => none }
def FnSameWrongFalsely : Prop := fnSameRow.holds Try.pinned (OpenSpec.ofChange fnSameWrong)

/-- 'laws.FnVirtuals': WHATEVER THE INPUT: true; the input reads as it did. -/
def fnVirtualsSpec : ChangeSpec := { name := "fnVirtuals", fn := fun _ => fun
  | [d] => { results := [.lit (.bool true)], args := [d] }
  | _ => none }
def fnVirtualsRow : OpenClaim := { program := "ytomladkeanieeaa", sum := "e587a6928f3da402f0cce1f9c5bd1248de3c7c2479d140bf655dbdd64678c7bd", func := "pub-berthage/laws.FnVirtuals", spec := "fnVirtuals", unfollowed := true, recurses := true, apart := false }
def FnVirtualsSaid : Prop := fnVirtualsRow.holds Try.pinned (OpenSpec.ofChange fnVirtualsSpec)

/-- ITS FALSE NEIGHBOUR: 'it returns false'. Refute it at one input. -/
def fnVirtualsWrong : ChangeSpec := { name := "fnVirtuals", fn := fun _ => fun
  | [d] => { results := [.lit (.bool false)], args := [d] }
  | _ => none }
def FnVirtualsWrongFalsely : Prop := fnVirtualsRow.holds Try.pinned (OpenSpec.ofChange fnVirtualsWrong)

/-- 'laws.FnOffset': WHATEVER THE INPUT: true; the input reads as it did. -/
def fnOffsetSpec : ChangeSpec := { name := "fnOffset", fn := fun _ => fun
  | [d1, d2, d3] => { results := [.lit (.bool true)], args := [d1, d2, d3] }
  | _ => none }
def fnOffsetRow : OpenClaim := { program := "ytomladkeanieeaa", sum := "e587a6928f3da402f0cce1f9c5bd1248de3c7c2479d140bf655dbdd64678c7bd", func := "pub-berthage/laws.FnOffset", spec := "fnOffset", unfollowed := true, recurses := true, apart := false }
def FnOffsetSaid : Prop := fnOffsetRow.holds Try.pinned (OpenSpec.ofChange fnOffsetSpec)

/-- ITS FALSE NEIGHBOUR: 'it returns false'. Refute it at one input. -/
def fnOffsetWrong : ChangeSpec := { name := "fnOffset", fn := fun _ => fun
  | [d1, d2, d3] => { results := [.lit (.bool false)], args := [d1, d2, d3] }
  | _ => none }
def FnOffsetWrongFalsely : Prop := fnOffsetRow.holds Try.pinned (OpenSpec.ofChange fnOffsetWrong)

/-- 'laws.FnAs': WHATEVER THE INPUT: true; the input reads as it did. -/
def fnAsSpec : ChangeSpec := { name := "fnAs", fn := fun _ => fun
  | [d1, d2] => { results := [.lit (.bool true)], args := [d1, d2] }
  | _ => none }
def fnAsRow : OpenClaim := { program := "ytomladkeanieeaa", sum := "e587a6928f3da402f0cce1f9c5bd1248de3c7c2479d140bf655dbdd64678c7bd", func := "pub-berthage/laws.FnAs", spec := "fnAs", unfollowed := true, recurses := true, apart := false }
def FnAsSaid : Prop := fnAsRow.holds Try.pinned (OpenSpec.ofChange fnAsSpec)

/-- ITS FALSE NEIGHBOUR: 'it returns false'. Refute it at one input. -/
def fnAsWrong : ChangeSpec := { name := "fnAs", fn := fun _ => fun
  | [d1, d2] => { results := [.lit (.bool false)], args := [d1, d2] }
  | _ => none }
def FnAsWrongFalsely : Prop := fnAsRow.holds Try.pinned (OpenSpec.ofChange fnAsWrong)

/- THE SECOND FORM. 'bulk': how many values and letters a reading holds, each counted each time it is reached (what is shared counts as often as it is met; a slice's spare places count too). A statement '..UptoSaid' is the law's where the arguments, and the package variables that the reading takes, are together of bulk at most 1048576: NARROWER than '..Said'. Prove '..Said' where nothing that the law and all that it calls make is longer than what came in: it says more and counts as full. Else prove '..UptoSaid'. A law counts once. -/
mutual
def uptoBulk {H : Type} : DataW H → Nat
  | .lit (.string bytes) => bytes.length + 1
  | .lit _ => 1
  | .nil => 1
  | .ptr d => uptoBulk d + 1
  | .slice elems spare => uptoBulkAll elems + uptoBulkAll spare + 1
  | .agg parts => uptoBulkAll parts + 1
  | .iface _ d => uptoBulk d + 1
  | .map entries => uptoBulkEntries entries + 1
  | .held _ => 1
def uptoBulkAll {H : Type} : List (DataW H) → Nat
  | [] => 0
  | d :: r => uptoBulk d + uptoBulkAll r
def uptoBulkEntries {H : Type} : List (Lit × DataW H) → Nat
  | [] => 0
  | x :: r => uptoBulkEntry x + uptoBulkEntries r
def uptoBulkEntry {H : Type} : Lit × DataW H → Nat
  | (.string bytes, d) => bytes.length + uptoBulk d + 1
  | (_, d) => uptoBulk d + 1
 end
def uptoSmall : (H : Type) → List (DataW H) → Bool := fun _ ds => decide (uptoBulkAll ds ≤ 1048576)
def OpenSpec.upto (s : _root_.Go.ChangeSpec) : _root_.Go.OpenSpec := { _root_.Go.OpenSpec.ofChange s with cond := some uptoSmall }

/-- 'laws.FnNumbersDiffer', WHERE WHAT IT READS IS OF BULK AT MOST 1048576: true; the input reads as it did. -/
def fnNumbersDifferUptoRow : OpenClaim := { program := "ytomladkeanieeaa", sum := "e587a6928f3da402f0cce1f9c5bd1248de3c7c2479d140bf655dbdd64678c7bd", func := "pub-berthage/laws.FnNumbersDiffer", spec := "fnNumbersDiffer", unfollowed := true, recurses := true, apart := false, narrowed := true }
def FnNumbersDifferUptoSaid : Prop := fnNumbersDifferUptoRow.holds Try.pinned (OpenSpec.upto fnNumbersDifferSpec)

/-- 'laws.FnSame', WHERE WHAT IT READS IS OF BULK AT MOST 1048576: true; the input reads as it did. -/
def fnSameUptoRow : OpenClaim := { program := "ytomladkeanieeaa", sum := "e587a6928f3da402f0cce1f9c5bd1248de3c7c2479d140bf655dbdd64678c7bd", func := "pub-berthage/laws.FnSame", spec := "fnSame", unfollowed := true, recurses := true, apart := false, narrowed := true }
def FnSameUptoSaid : Prop := fnSameUptoRow.holds Try.pinned (OpenSpec.upto fnSameSpec)

/-- 'laws.FnVirtuals', WHERE WHAT IT READS IS OF BULK AT MOST 1048576: true; the input reads as it did. -/
def fnVirtualsUptoRow : OpenClaim := { program := "ytomladkeanieeaa", sum := "e587a6928f3da402f0cce1f9c5bd1248de3c7c2479d140bf655dbdd64678c7bd", func := "pub-berthage/laws.FnVirtuals", spec := "fnVirtuals", unfollowed := true, recurses := true, apart := false, narrowed := true }
def FnVirtualsUptoSaid : Prop := fnVirtualsUptoRow.holds Try.pinned (OpenSpec.upto fnVirtualsSpec)

/-- 'laws.FnOffset', WHERE WHAT IT READS IS OF BULK AT MOST 1048576: true; the input reads as it did. -/
def fnOffsetUptoRow : OpenClaim := { program := "ytomladkeanieeaa", sum := "e587a6928f3da402f0cce1f9c5bd1248de3c7c2479d140bf655dbdd64678c7bd", func := "pub-berthage/laws.FnOffset", spec := "fnOffset", unfollowed := true, recurses := true, apart := false, narrowed := true }
def FnOffsetUptoSaid : Prop := fnOffsetUptoRow.holds Try.pinned (OpenSpec.upto fnOffsetSpec)

/-- 'laws.FnAs', WHERE WHAT IT READS IS OF BULK AT MOST 1048576: true; the input reads as it did. -/
def fnAsUptoRow : OpenClaim := { program := "ytomladkeanieeaa", sum := "e587a6928f3da402f0cce1f9c5bd1248de3c7c2479d140bf655dbdd64678c7bd", func := "pub-berthage/laws.FnAs", spec := "fnAs", unfollowed := true, recurses := true, apart := false, narrowed := true }
def FnAsUptoSaid : Prop := fnAsUptoRow.holds Try.pinned (OpenSpec.upto fnAsSpec)

end Rows
end Go.Proofs.Ytomladkeanieeaa
