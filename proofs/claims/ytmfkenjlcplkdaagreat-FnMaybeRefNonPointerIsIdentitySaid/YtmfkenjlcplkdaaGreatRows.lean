/-
  No cell of these rows narrows 'for every input' (looked for: loops, veiled, ifaces, maps, wideKeys, modest, calm, conditions, laid).
  DERIVED. THE GIVEN ROWS OF THIS SEAT. 2 by the template 'for every input the law returns true; each argument reads behind the call as it read before'; 0 by the template 'total and deterministic' (their statements: YtmfkenjlcplkdaaGreatTotals.lean).
  GIVEN WITH THE SEED: the statements are not yours to turn. If you find one false, say at which input.
  Laid BY PROGRAM, IN A SANDBOX (cutbox-rows.mjs): the forced cells as the released guide's own fill.sh prints them over the translation 216ad382e253bc03… (all of the seat's roots in one cut). By AI agents, Wed Nov 11 2026. No macro, syntax, notation, axiom, sorry.
-/
import Derived.Test.YtmfkenjlcplkdaaGreatChecked
import GoSem.Claim
import GoSem.ClaimJoined
import GoSem.ClaimMapViews
import Derived.JoinedTies
import Derived.KernelRfl
namespace Go.Proofs.YtmfkenjlcplkdaaGreat
/- THE CELL 'sum', in the pinned program and in every row, IS THE sha256 OF THE DUMP (.gsa) THAT YtmfkenjlcplkdaaGreatProg.lean LOADS. Nothing in Lean hashes anything: it is a label: what it is worth is what the hold of that sum in a sandbox is worth. -/
noncomputable def Tryz.pinned : Pinned := { name := "ytmfkenjlcplkdaagreat", sum := "216ad382e253bc035e747caf6f01b4c841b172c0d3d168f84fc649a3e4e54301", checked := Tryz.checked }
namespace Rows
def none {H : Type} : Left H := { results := [], args := [] }

/-- 'n025_11.FnMaybeRefNonPointerIsIdentity': WHATEVER THE INPUT: true; the input reads as it did. -/
def fnMaybeRefNonPointerIsIdentitySpec : ChangeSpec := { name := "fnMaybeRefNonPointerIsIdentity", fn := fun _ => fun
  | [d] => { results := [.lit (.bool true)], args := [d] }
  | _ => none }
def fnMaybeRefNonPointerIsIdentityRow : OpenClaim := { program := "ytmfkenjlcplkdaagreat", sum := "216ad382e253bc035e747caf6f01b4c841b172c0d3d168f84fc649a3e4e54301", func := "github.com/alecthomas/participle/v2/n025_11.FnMaybeRefNonPointerIsIdentity", spec := "fnMaybeRefNonPointerIsIdentity", inPlace := ["reflect.TypeOf", "reflect.ValueOf", "(reflect.Value).Elem", "(reflect.Value).Type", "(reflect.Value).CanAddr", "(reflect.Value).Addr", "reflect.New", "(reflect.Value).Set", "(reflect.Value).Int"], unfollowed := true, recurses := true, make := .lifted ["reflectrows", "leanrows"], apart := false }
def FnMaybeRefNonPointerIsIdentitySaid : Prop := fnMaybeRefNonPointerIsIdentityRow.holds Tryz.pinned (OpenSpec.ofChange fnMaybeRefNonPointerIsIdentitySpec)

/-- ITS FALSE NEIGHBOUR: 'it returns false'. Refute it at one input. -/
def fnMaybeRefNonPointerIsIdentityWrong : ChangeSpec := { name := "fnMaybeRefNonPointerIsIdentity", fn := fun _ => fun
  | [d] => { results := [.lit (.bool false)], args := [d] }
  | _ => none }
def FnMaybeRefNonPointerIsIdentityWrongFalsely : Prop := fnMaybeRefNonPointerIsIdentityRow.holds Tryz.pinned (OpenSpec.ofChange fnMaybeRefNonPointerIsIdentityWrong)

/-- 'n025_11.FnMaybeRefPointerAliases': WHATEVER THE INPUT: true; the input reads as it did. -/
def fnMaybeRefPointerAliasesSpec : ChangeSpec := { name := "fnMaybeRefPointerAliases", fn := fun _ => fun
  | [d] => { results := [.lit (.bool true)], args := [d] }
  | _ => none }
def fnMaybeRefPointerAliasesRow : OpenClaim := { program := "ytmfkenjlcplkdaagreat", sum := "216ad382e253bc035e747caf6f01b4c841b172c0d3d168f84fc649a3e4e54301", func := "github.com/alecthomas/participle/v2/n025_11.FnMaybeRefPointerAliases", spec := "fnMaybeRefPointerAliases", inPlace := ["reflect.TypeOf", "reflect.ValueOf", "(reflect.Value).Elem", "(reflect.Value).Type", "(reflect.Value).CanAddr", "(reflect.Value).Addr", "reflect.New", "(reflect.Value).Set", "(reflect.Value).Interface"], unfollowed := true, recurses := true, make := .lifted ["reflectrows", "leanrows"], apart := false }
def FnMaybeRefPointerAliasesSaid : Prop := fnMaybeRefPointerAliasesRow.holds Tryz.pinned (OpenSpec.ofChange fnMaybeRefPointerAliasesSpec)

/-- ITS FALSE NEIGHBOUR: 'it returns false'. Refute it at one input. -/
def fnMaybeRefPointerAliasesWrong : ChangeSpec := { name := "fnMaybeRefPointerAliases", fn := fun _ => fun
  | [d] => { results := [.lit (.bool false)], args := [d] }
  | _ => none }
def FnMaybeRefPointerAliasesWrongFalsely : Prop := fnMaybeRefPointerAliasesRow.holds Tryz.pinned (OpenSpec.ofChange fnMaybeRefPointerAliasesWrong)

/- THE SECOND FORM. 'bulk': how many values and letters a reading holds, each counted each time it is reached (what is shared counts as often as it is met; a slice's spare places count too). A statement '..UptoSaid' is the law's where the arguments, and the package variables that the reading takes, are together of bulk at most 1048576: NARROWER than '..Said'. Prove '..Said' where nothing that the law and all that it calls make is longer than what came in: it says more and counts as full. Else prove '..UptoSaid'. A law counts once. -/
mutual
def uptoBulk {H : Type} : DataW H → Nat
  | .lit (.string bytes) => bytes.length + 1
  | .lit _ => 1
  | .nil => 1
  | .ptr d => uptoBulk d + 1
  | .slice elems spare => uptoBulkAll elems + uptoBulkAll spare + 1
  | .agg parts => uptoBulkAll parts + 1
  | .iface _ d => uptoBulk d + 1
  | .map entries => uptoBulkEntries entries + 1
  | .held _ => 1
def uptoBulkAll {H : Type} : List (DataW H) → Nat
  | [] => 0
  | d :: r => uptoBulk d + uptoBulkAll r
def uptoBulkEntries {H : Type} : List (Lit × DataW H) → Nat
  | [] => 0
  | x :: r => uptoBulkEntry x + uptoBulkEntries r
def uptoBulkEntry {H : Type} : Lit × DataW H → Nat
  | (.string bytes, d) => bytes.length + uptoBulk d + 1
  | (_, d) => uptoBulk d + 1
 end
def uptoSmall : (H : Type) → List (DataW H) → Bool := fun _ ds => decide (uptoBulkAll ds ≤ 1048576)
def OpenSpec.upto (s : _root_.Go.ChangeSpec) : _root_.Go.OpenSpec := { _root_.Go.OpenSpec.ofChange s with cond := some uptoSmall }

/-- 'n025_11.FnMaybeRefNonPointerIsIdentity', WHERE WHAT IT READS IS OF BULK AT MOST 1048576: true; the input reads as it did. -/
def fnMaybeRefNonPointerIsIdentityUptoRow : OpenClaim := { program := "ytmfkenjlcplkdaagreat", sum := "216ad382e253bc035e747caf6f01b4c841b172c0d3d168f84fc649a3e4e54301", func := "github.com/alecthomas/participle/v2/n025_11.FnMaybeRefNonPointerIsIdentity", spec := "fnMaybeRefNonPointerIsIdentity", inPlace := ["reflect.TypeOf", "reflect.ValueOf", "(reflect.Value).Elem", "(reflect.Value).Type", "(reflect.Value).CanAddr", "(reflect.Value).Addr", "reflect.New", "(reflect.Value).Set", "(reflect.Value).Int"], unfollowed := true, recurses := true, make := .lifted ["reflectrows", "leanrows"], apart := false, narrowed := true }
def FnMaybeRefNonPointerIsIdentityUptoSaid : Prop := fnMaybeRefNonPointerIsIdentityUptoRow.holds Tryz.pinned (OpenSpec.upto fnMaybeRefNonPointerIsIdentitySpec)

/-- 'n025_11.FnMaybeRefPointerAliases', WHERE WHAT IT READS IS OF BULK AT MOST 1048576: true; the input reads as it did. -/
def fnMaybeRefPointerAliasesUptoRow : OpenClaim := { program := "ytmfkenjlcplkdaagreat", sum := "216ad382e253bc035e747caf6f01b4c841b172c0d3d168f84fc649a3e4e54301", func := "github.com/alecthomas/participle/v2/n025_11.FnMaybeRefPointerAliases", spec := "fnMaybeRefPointerAliases", inPlace := ["reflect.TypeOf", "reflect.ValueOf", "(reflect.Value).Elem", "(reflect.Value).Type", "(reflect.Value).CanAddr", "(reflect.Value).Addr", "reflect.New", "(reflect.Value).Set", "(reflect.Value).Interface"], unfollowed := true, recurses := true, make := .lifted ["reflectrows", "leanrows"], apart := false, narrowed := true }
def FnMaybeRefPointerAliasesUptoSaid : Prop := fnMaybeRefPointerAliasesUptoRow.holds Tryz.pinned (OpenSpec.upto fnMaybeRefPointerAliasesSpec)

end Rows
end Go.Proofs.YtmfkenjlcplkdaaGreat
