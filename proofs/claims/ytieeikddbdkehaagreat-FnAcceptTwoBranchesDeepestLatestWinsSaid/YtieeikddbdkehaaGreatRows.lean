/-
  No cell of these rows narrows 'for every input' (looked for: loops, veiled, ifaces, maps, wideKeys, modest, calm, conditions, laid).
  DERIVED. THE GIVEN ROWS OF THIS SEAT. 5 by the template 'for every input the law returns true; each argument reads behind the call as it read before'; 0 by the template 'total and deterministic' (their statements: YtieeikddbdkehaaGreatTotals.lean).
  GIVEN WITH THE SEED: the statements are not yours to turn. If you find one false, say at which input.
  Laid BY PROGRAM, IN A SANDBOX (cutbox-rows.mjs): the forced cells as the released guide's own fill.sh prints them over the translation d19ffb28de9b1d45… (all of the seat's roots in one cut). By AI agents, Wed Nov 11 2026. No macro, syntax, notation, axiom, sorry.
-/
import Derived.Test.YtieeikddbdkehaaGreatChecked
import GoSem.Claim
import GoSem.ClaimJoined
import GoSem.ClaimMapViews
import Derived.JoinedTies
import Derived.KernelRfl
namespace Go.Proofs.YtieeikddbdkehaaGreat
/- THE CELL 'sum', in the pinned program and in every row, IS THE sha256 OF THE DUMP (.gsa) THAT YtieeikddbdkehaaGreatProg.lean LOADS. Nothing in Lean hashes anything: it is a label: what it is worth is what the hold of that sum in a sandbox is worth. -/
noncomputable def Tryz.pinned : Pinned := { name := "ytieeikddbdkehaagreat", sum := "d19ffb28de9b1d45406e9f54c1d413f8609e9de391b01bd0a90c7295297c3ef5", checked := Tryz.checked }
namespace Rows
def none {H : Type} : Left H := { results := [], args := [] }

/-- 'n025_29.FnBranchExactCopy': WHATEVER THE INPUT: true; the input reads as it did. -/
def fnBranchExactCopySpec : ChangeSpec := { name := "fnBranchExactCopy", fn := fun _ => fun
  | [d1, d2, d3] => { results := [.lit (.bool true)], args := [d1, d2, d3] }
  | _ => none }
def fnBranchExactCopyRow : OpenClaim := { program := "ytieeikddbdkehaagreat", sum := "d19ffb28de9b1d45406e9f54c1d413f8609e9de391b01bd0a90c7295297c3ef5", func := "github.com/alecthomas/participle/v2/n025_29.FnBranchExactCopy", spec := "fnBranchExactCopy", make := .lifted ["reflectrows", "leanrows"], apart := false }
def FnBranchExactCopySaid : Prop := fnBranchExactCopyRow.holds Tryz.pinned (OpenSpec.ofChange fnBranchExactCopySpec)

/-- ITS FALSE NEIGHBOUR: 'it returns false'. Refute it at one input. -/
def fnBranchExactCopyWrong : ChangeSpec := { name := "fnBranchExactCopy", fn := fun _ => fun
  | [d1, d2, d3] => { results := [.lit (.bool false)], args := [d1, d2, d3] }
  | _ => none }
def FnBranchExactCopyWrongFalsely : Prop := fnBranchExactCopyRow.holds Tryz.pinned (OpenSpec.ofChange fnBranchExactCopyWrong)

/-- 'n025_29.FnBranchIsolatedThenAcceptMerges': WHATEVER THE INPUT: true; the input reads as it did. -/
def fnBranchIsolatedThenAcceptMergesSpec : ChangeSpec := { name := "fnBranchIsolatedThenAcceptMerges", fn := fun _ => fun
  | [d1, d2, d3, d4] => { results := [.lit (.bool true)], args := [d1, d2, d3, d4] }
  | _ => none }
def fnBranchIsolatedThenAcceptMergesRow : OpenClaim := { program := "ytieeikddbdkehaagreat", sum := "d19ffb28de9b1d45406e9f54c1d413f8609e9de391b01bd0a90c7295297c3ef5", func := "github.com/alecthomas/participle/v2/n025_29.FnBranchIsolatedThenAcceptMerges", spec := "fnBranchIsolatedThenAcceptMerges", make := .lifted ["reflectrows", "leanrows"], apart := false }
def FnBranchIsolatedThenAcceptMergesSaid : Prop := fnBranchIsolatedThenAcceptMergesRow.holds Tryz.pinned (OpenSpec.ofChange fnBranchIsolatedThenAcceptMergesSpec)

/-- ITS FALSE NEIGHBOUR: 'it returns false'. Refute it at one input. -/
def fnBranchIsolatedThenAcceptMergesWrong : ChangeSpec := { name := "fnBranchIsolatedThenAcceptMerges", fn := fun _ => fun
  | [d1, d2, d3, d4] => { results := [.lit (.bool false)], args := [d1, d2, d3, d4] }
  | _ => none }
def FnBranchIsolatedThenAcceptMergesWrongFalsely : Prop := fnBranchIsolatedThenAcceptMergesRow.holds Tryz.pinned (OpenSpec.ofChange fnBranchIsolatedThenAcceptMergesWrong)

/-- 'n025_29.FnMaybeUpdateErrorScriptLastWins': WHATEVER THE INPUT: true; the input reads as it did. -/
def fnMaybeUpdateErrorScriptLastWinsSpec : ChangeSpec := { name := "fnMaybeUpdateErrorScriptLastWins", fn := fun _ => fun
  | [d1, d2] => { results := [.lit (.bool true)], args := [d1, d2] }
  | _ => none }
def fnMaybeUpdateErrorScriptLastWinsRow : OpenClaim := { program := "ytieeikddbdkehaagreat", sum := "d19ffb28de9b1d45406e9f54c1d413f8609e9de391b01bd0a90c7295297c3ef5", func := "github.com/alecthomas/participle/v2/n025_29.FnMaybeUpdateErrorScriptLastWins", spec := "fnMaybeUpdateErrorScriptLastWins", make := .lifted ["reflectrows", "leanrows"], apart := false }
def FnMaybeUpdateErrorScriptLastWinsSaid : Prop := fnMaybeUpdateErrorScriptLastWinsRow.holds Tryz.pinned (OpenSpec.ofChange fnMaybeUpdateErrorScriptLastWinsSpec)

/-- ITS FALSE NEIGHBOUR: 'it returns false'. Refute it at one input. -/
def fnMaybeUpdateErrorScriptLastWinsWrong : ChangeSpec := { name := "fnMaybeUpdateErrorScriptLastWins", fn := fun _ => fun
  | [d1, d2] => { results := [.lit (.bool false)], args := [d1, d2] }
  | _ => none }
def FnMaybeUpdateErrorScriptLastWinsWrongFalsely : Prop := fnMaybeUpdateErrorScriptLastWinsRow.holds Tryz.pinned (OpenSpec.ofChange fnMaybeUpdateErrorScriptLastWinsWrong)

/-- 'n025_29.FnAcceptExactTable': WHATEVER THE INPUT: true; the input reads as it did. -/
def fnAcceptExactTableSpec : ChangeSpec := { name := "fnAcceptExactTable", fn := fun _ => fun
  | [d1, d2, d3, d4, d5] => { results := [.lit (.bool true)], args := [d1, d2, d3, d4, d5] }
  | _ => none }
def fnAcceptExactTableRow : OpenClaim := { program := "ytieeikddbdkehaagreat", sum := "d19ffb28de9b1d45406e9f54c1d413f8609e9de391b01bd0a90c7295297c3ef5", func := "github.com/alecthomas/participle/v2/n025_29.FnAcceptExactTable", spec := "fnAcceptExactTable", make := .lifted ["reflectrows", "leanrows"], apart := false }
def FnAcceptExactTableSaid : Prop := fnAcceptExactTableRow.holds Tryz.pinned (OpenSpec.ofChange fnAcceptExactTableSpec)

/-- ITS FALSE NEIGHBOUR: 'it returns false'. Refute it at one input. -/
def fnAcceptExactTableWrong : ChangeSpec := { name := "fnAcceptExactTable", fn := fun _ => fun
  | [d1, d2, d3, d4, d5] => { results := [.lit (.bool false)], args := [d1, d2, d3, d4, d5] }
  | _ => none }
def FnAcceptExactTableWrongFalsely : Prop := fnAcceptExactTableRow.holds Tryz.pinned (OpenSpec.ofChange fnAcceptExactTableWrong)

/-- 'n025_29.FnAcceptTwoBranchesDeepestLatestWins': WHATEVER THE INPUT: true; the input reads as it did. -/
def fnAcceptTwoBranchesDeepestLatestWinsSpec : ChangeSpec := { name := "fnAcceptTwoBranchesDeepestLatestWins", fn := fun _ => fun
  | [d1, d2, d3, d4, d5, d6] => { results := [.lit (.bool true)], args := [d1, d2, d3, d4, d5, d6] }
  | _ => none }
def fnAcceptTwoBranchesDeepestLatestWinsRow : OpenClaim := { program := "ytieeikddbdkehaagreat", sum := "d19ffb28de9b1d45406e9f54c1d413f8609e9de391b01bd0a90c7295297c3ef5", func := "github.com/alecthomas/participle/v2/n025_29.FnAcceptTwoBranchesDeepestLatestWins", spec := "fnAcceptTwoBranchesDeepestLatestWins", make := .lifted ["reflectrows", "leanrows"], apart := false }
def FnAcceptTwoBranchesDeepestLatestWinsSaid : Prop := fnAcceptTwoBranchesDeepestLatestWinsRow.holds Tryz.pinned (OpenSpec.ofChange fnAcceptTwoBranchesDeepestLatestWinsSpec)

/-- ITS FALSE NEIGHBOUR: 'it returns false'. Refute it at one input. -/
def fnAcceptTwoBranchesDeepestLatestWinsWrong : ChangeSpec := { name := "fnAcceptTwoBranchesDeepestLatestWins", fn := fun _ => fun
  | [d1, d2, d3, d4, d5, d6] => { results := [.lit (.bool false)], args := [d1, d2, d3, d4, d5, d6] }
  | _ => none }
def FnAcceptTwoBranchesDeepestLatestWinsWrongFalsely : Prop := fnAcceptTwoBranchesDeepestLatestWinsRow.holds Tryz.pinned (OpenSpec.ofChange fnAcceptTwoBranchesDeepestLatestWinsWrong)

/- THE SECOND FORM. 'bulk': how many values and letters a reading holds, each counted each time it is reached (what is shared counts as often as it is met; a slice's spare places count too). A statement '..UptoSaid' is the law's where the arguments, and the package variables that the reading takes, are together of bulk at most 1048576: NARROWER than '..Said'. Prove '..Said' where nothing that the law and all that it calls make is longer than what came in: it says more and counts as full. Else prove '..UptoSaid'. A law counts once. -/
mutual
def uptoBulk {H : Type} : DataW H → Nat
  | .lit (.string bytes) => bytes.length + 1
  | .lit _ => 1
  | .nil => 1
  | .ptr d => uptoBulk d + 1
  | .slice elems spare => uptoBulkAll elems + uptoBulkAll spare + 1
  | .agg parts => uptoBulkAll parts + 1
  | .iface _ d => uptoBulk d + 1
  | .map entries => uptoBulkEntries entries + 1
  | .held _ => 1
def uptoBulkAll {H : Type} : List (DataW H) → Nat
  | [] => 0
  | d :: r => uptoBulk d + uptoBulkAll r
def uptoBulkEntries {H : Type} : List (Lit × DataW H) → Nat
  | [] => 0
  | x :: r => uptoBulkEntry x + uptoBulkEntries r
def uptoBulkEntry {H : Type} : Lit × DataW H → Nat
  | (.string bytes, d) => bytes.length + uptoBulk d + 1
  | (_, d) => uptoBulk d + 1
 end
def uptoSmall : (H : Type) → List (DataW H) → Bool := fun _ ds => decide (uptoBulkAll ds ≤ 1048576)
def OpenSpec.upto (s : _root_.Go.ChangeSpec) : _root_.Go.OpenSpec := { _root_.Go.OpenSpec.ofChange s with cond := some uptoSmall }

/-- 'n025_29.FnBranchExactCopy', WHERE WHAT IT READS IS OF BULK AT MOST 1048576: true; the input reads as it did. -/
def fnBranchExactCopyUptoRow : OpenClaim := { program := "ytieeikddbdkehaagreat", sum := "d19ffb28de9b1d45406e9f54c1d413f8609e9de391b01bd0a90c7295297c3ef5", func := "github.com/alecthomas/participle/v2/n025_29.FnBranchExactCopy", spec := "fnBranchExactCopy", make := .lifted ["reflectrows", "leanrows"], apart := false, narrowed := true }
def FnBranchExactCopyUptoSaid : Prop := fnBranchExactCopyUptoRow.holds Tryz.pinned (OpenSpec.upto fnBranchExactCopySpec)

/-- 'n025_29.FnBranchIsolatedThenAcceptMerges', WHERE WHAT IT READS IS OF BULK AT MOST 1048576: true; the input reads as it did. -/
def fnBranchIsolatedThenAcceptMergesUptoRow : OpenClaim := { program := "ytieeikddbdkehaagreat", sum := "d19ffb28de9b1d45406e9f54c1d413f8609e9de391b01bd0a90c7295297c3ef5", func := "github.com/alecthomas/participle/v2/n025_29.FnBranchIsolatedThenAcceptMerges", spec := "fnBranchIsolatedThenAcceptMerges", make := .lifted ["reflectrows", "leanrows"], apart := false, narrowed := true }
def FnBranchIsolatedThenAcceptMergesUptoSaid : Prop := fnBranchIsolatedThenAcceptMergesUptoRow.holds Tryz.pinned (OpenSpec.upto fnBranchIsolatedThenAcceptMergesSpec)

/-- 'n025_29.FnMaybeUpdateErrorScriptLastWins', WHERE WHAT IT READS IS OF BULK AT MOST 1048576: true; the input reads as it did. -/
def fnMaybeUpdateErrorScriptLastWinsUptoRow : OpenClaim := { program := "ytieeikddbdkehaagreat", sum := "d19ffb28de9b1d45406e9f54c1d413f8609e9de391b01bd0a90c7295297c3ef5", func := "github.com/alecthomas/participle/v2/n025_29.FnMaybeUpdateErrorScriptLastWins", spec := "fnMaybeUpdateErrorScriptLastWins", make := .lifted ["reflectrows", "leanrows"], apart := false, narrowed := true }
def FnMaybeUpdateErrorScriptLastWinsUptoSaid : Prop := fnMaybeUpdateErrorScriptLastWinsUptoRow.holds Tryz.pinned (OpenSpec.upto fnMaybeUpdateErrorScriptLastWinsSpec)

/-- 'n025_29.FnAcceptExactTable', WHERE WHAT IT READS IS OF BULK AT MOST 1048576: true; the input reads as it did. -/
def fnAcceptExactTableUptoRow : OpenClaim := { program := "ytieeikddbdkehaagreat", sum := "d19ffb28de9b1d45406e9f54c1d413f8609e9de391b01bd0a90c7295297c3ef5", func := "github.com/alecthomas/participle/v2/n025_29.FnAcceptExactTable", spec := "fnAcceptExactTable", make := .lifted ["reflectrows", "leanrows"], apart := false, narrowed := true }
def FnAcceptExactTableUptoSaid : Prop := fnAcceptExactTableUptoRow.holds Tryz.pinned (OpenSpec.upto fnAcceptExactTableSpec)

/-- 'n025_29.FnAcceptTwoBranchesDeepestLatestWins', WHERE WHAT IT READS IS OF BULK AT MOST 1048576: true; the input reads as it did. -/
def fnAcceptTwoBranchesDeepestLatestWinsUptoRow : OpenClaim := { program := "ytieeikddbdkehaagreat", sum := "d19ffb28de9b1d45406e9f54c1d413f8609e9de391b01bd0a90c7295297c3ef5", func := "github.com/alecthomas/participle/v2/n025_29.FnAcceptTwoBranchesDeepestLatestWins", spec := "fnAcceptTwoBranchesDeepestLatestWins", make := .lifted ["reflectrows", "leanrows"], apart := false, narrowed := true }
def FnAcceptTwoBranchesDeepestLatestWinsUptoSaid : Prop := fnAcceptTwoBranchesDeepestLatestWinsUptoRow.holds Tryz.pinned (OpenSpec.upto fnAcceptTwoBranchesDeepestLatestWinsSpec)

end Rows
end Go.Proofs.YtieeikddbdkehaaGreat
