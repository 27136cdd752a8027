/-
  No cell of these rows narrows 'for every input' (looked for: loops, veiled, ifaces, maps, wideKeys, modest, calm, conditions, laid).
  DERIVED. THE GIVEN ROWS OF THIS SEAT. 3 by the template 'for every input the law returns true; each argument reads behind the call as it read before'; 0 by the template 'total and deterministic' (their statements: YtljnooljfbokoaaTotals.lean).
  GIVEN WITH THE SEED: the statements are not yours to turn. If you find one false, say at which input.
  Laid BY PROGRAM, IN A SANDBOX (cutbox-rows.mjs): the forced cells as the released guide's own fill.sh prints them over the translation 987692c16d510361… (all of the seat's roots in one cut). By AI agents, Wed Nov 11 2026. No macro, syntax, notation, axiom, sorry.
-/
import Derived.Test.YtljnooljfbokoaaChecked
import GoSem.Claim
import GoSem.ClaimJoined
import GoSem.ClaimMapViews
import Derived.JoinedTies
import Derived.KernelRfl
namespace Go.Proofs.Ytljnooljfbokoaa
/- THE CELL 'sum', in the pinned program and in every row, IS THE sha256 OF THE DUMP (.gsa) THAT YtljnooljfbokoaaProg.lean LOADS. Nothing in Lean hashes anything: it is a label: what it is worth is what the hold of that sum in a sandbox is worth. -/
noncomputable def Try.pinned : Pinned := { name := "ytljnooljfbokoaa", sum := "987692c16d510361a5b9e0131476358daa1908644ea8abf4a5be6435cc01cd0e", checked := Try.checked }
namespace Rows
def none {H : Type} : Left H := { results := [], args := [] }

/-- 'laws.FnHasPrefix': WHATEVER THE INPUT: true; the input reads as it did. -/
def fnHasPrefixSpec : ChangeSpec := { name := "fnHasPrefix", fn := fun _ => fun
  | [d1, d2] => { results := [.lit (.bool true)], args := [d1, d2] }
  | _ => none }
def fnHasPrefixRow : OpenClaim := { program := "ytljnooljfbokoaa", sum := "987692c16d510361a5b9e0131476358daa1908644ea8abf4a5be6435cc01cd0e", func := "opastore/laws.FnHasPrefix", spec := "fnHasPrefix", apart := false }
def FnHasPrefixSaid : Prop := fnHasPrefixRow.holds Try.pinned (OpenSpec.ofChange fnHasPrefixSpec)

/-- ITS FALSE NEIGHBOUR: 'it returns false'. Refute it at one input. -/
def fnHasPrefixWrong : ChangeSpec := { name := "fnHasPrefix", fn := fun _ => fun
  | [d1, d2] => { results := [.lit (.bool false)], args := [d1, d2] }
  | _ => none }
def FnHasPrefixWrongFalsely : Prop := fnHasPrefixRow.holds Try.pinned (OpenSpec.ofChange fnHasPrefixWrong)

/-- 'laws.FnParsePath': WHATEVER THE INPUT: true; the input reads as it did. -/
def fnParsePathSpec : ChangeSpec := { name := "fnParsePath", fn := fun _ => fun
  | [d] => { results := [.lit (.bool true)], args := [d] }
  | _ => none }
def fnParsePathRow : OpenClaim := { program := "ytljnooljfbokoaa", sum := "987692c16d510361a5b9e0131476358daa1908644ea8abf4a5be6435cc01cd0e", func := "opastore/laws.FnParsePath", spec := "fnParsePath", apart := false }
def FnParsePathSaid : Prop := fnParsePathRow.holds Try.pinned (OpenSpec.ofChange fnParsePathSpec)

/-- ITS FALSE NEIGHBOUR: 'it returns false'. Refute it at one input. -/
def fnParsePathWrong : ChangeSpec := { name := "fnParsePath", fn := fun _ => fun
  | [d] => { results := [.lit (.bool false)], args := [d] }
  | _ => none }
def FnParsePathWrongFalsely : Prop := fnParsePathRow.holds Try.pinned (OpenSpec.ofChange fnParsePathWrong)

/-- 'laws.FnComparePaths': WHATEVER THE INPUT: true; the input reads as it did. -/
def fnComparePathsSpec : ChangeSpec := { name := "fnComparePaths", fn := fun _ => fun
  | [d1, d2] => { results := [.lit (.bool true)], args := [d1, d2] }
  | _ => none }
def fnComparePathsRow : OpenClaim := { program := "ytljnooljfbokoaa", sum := "987692c16d510361a5b9e0131476358daa1908644ea8abf4a5be6435cc01cd0e", func := "opastore/laws.FnComparePaths", spec := "fnComparePaths", apart := false }
def FnComparePathsSaid : Prop := fnComparePathsRow.holds Try.pinned (OpenSpec.ofChange fnComparePathsSpec)

/-- ITS FALSE NEIGHBOUR: 'it returns false'. Refute it at one input. -/
def fnComparePathsWrong : ChangeSpec := { name := "fnComparePaths", fn := fun _ => fun
  | [d1, d2] => { results := [.lit (.bool false)], args := [d1, d2] }
  | _ => none }
def FnComparePathsWrongFalsely : Prop := fnComparePathsRow.holds Try.pinned (OpenSpec.ofChange fnComparePathsWrong)

/- THE SECOND FORM. 'bulk': how many values and letters a reading holds, each counted each time it is reached (what is shared counts as often as it is met; a slice's spare places count too). A statement '..UptoSaid' is the law's where the arguments, and the package variables that the reading takes, are together of bulk at most 1048576: NARROWER than '..Said'. Prove '..Said' where nothing that the law and all that it calls make is longer than what came in: it says more and counts as full. Else prove '..UptoSaid'. A law counts once. -/
mutual
def uptoBulk {H : Type} : DataW H → Nat
  | .lit (.string bytes) => bytes.length + 1
  | .lit _ => 1
  | .nil => 1
  | .ptr d => uptoBulk d + 1
  | .slice elems spare => uptoBulkAll elems + uptoBulkAll spare + 1
  | .agg parts => uptoBulkAll parts + 1
  | .iface _ d => uptoBulk d + 1
  | .map entries => uptoBulkEntries entries + 1
  | .held _ => 1
def uptoBulkAll {H : Type} : List (DataW H) → Nat
  | [] => 0
  | d :: r => uptoBulk d + uptoBulkAll r
def uptoBulkEntries {H : Type} : List (Lit × DataW H) → Nat
  | [] => 0
  | x :: r => uptoBulkEntry x + uptoBulkEntries r
def uptoBulkEntry {H : Type} : Lit × DataW H → Nat
  | (.string bytes, d) => bytes.length + uptoBulk d + 1
  | (_, d) => uptoBulk d + 1
 end
def uptoSmall : (H : Type) → List (DataW H) → Bool := fun _ ds => decide (uptoBulkAll ds ≤ 1048576)
def OpenSpec.upto (s : _root_.Go.ChangeSpec) : _root_.Go.OpenSpec := { _root_.Go.OpenSpec.ofChange s with cond := some uptoSmall }

/-- 'laws.FnHasPrefix', WHERE WHAT IT READS IS OF BULK AT MOST 1048576: true; the input reads as it did. -/
def fnHasPrefixUptoRow : OpenClaim := { program := "ytljnooljfbokoaa", sum := "987692c16d510361a5b9e0131476358daa1908644ea8abf4a5be6435cc01cd0e", func := "opastore/laws.FnHasPrefix", spec := "fnHasPrefix", apart := false, narrowed := true }
def FnHasPrefixUptoSaid : Prop := fnHasPrefixUptoRow.holds Try.pinned (OpenSpec.upto fnHasPrefixSpec)

/-- 'laws.FnParsePath', WHERE WHAT IT READS IS OF BULK AT MOST 1048576: true; the input reads as it did. -/
def fnParsePathUptoRow : OpenClaim := { program := "ytljnooljfbokoaa", sum := "987692c16d510361a5b9e0131476358daa1908644ea8abf4a5be6435cc01cd0e", func := "opastore/laws.FnParsePath", spec := "fnParsePath", apart := false, narrowed := true }
def FnParsePathUptoSaid : Prop := fnParsePathUptoRow.holds Try.pinned (OpenSpec.upto fnParsePathSpec)

/-- 'laws.FnComparePaths', WHERE WHAT IT READS IS OF BULK AT MOST 1048576: true; the input reads as it did. -/
def fnComparePathsUptoRow : OpenClaim := { program := "ytljnooljfbokoaa", sum := "987692c16d510361a5b9e0131476358daa1908644ea8abf4a5be6435cc01cd0e", func := "opastore/laws.FnComparePaths", spec := "fnComparePaths", apart := false, narrowed := true }
def FnComparePathsUptoSaid : Prop := fnComparePathsUptoRow.holds Try.pinned (OpenSpec.upto fnComparePathsSpec)

end Rows
end Go.Proofs.Ytljnooljfbokoaa
