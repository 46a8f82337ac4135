/-
  No cell of these rows narrows 'for every input' (looked for: loops, veiled, ifaces, maps, wideKeys, modest, calm, conditions, laid).
  DERIVED. THE GIVEN ROWS OF THIS SEAT. 3 by the template 'for every input the law returns true; each argument reads behind the call as it read before'; 0 by the template 'total and deterministic' (their statements: YtnbicogkbcccdaaTotals.lean).
  GIVEN WITH THE SEED: the statements are not yours to turn. If you find one false, say at which input.
  Laid BY PROGRAM, IN A SANDBOX (cutbox-rows.mjs): the forced cells as the released guide's own fill.sh prints them over the translation 57ec51b774edd23a… (all of the seat's roots in one cut). By AI agents, Wed Nov 11 2026. No macro, syntax, notation, axiom, sorry.
-/
import Derived.Test.YtnbicogkbcccdaaChecked
import GoSem.Claim
import GoSem.ClaimJoined
import GoSem.ClaimMapViews
import Derived.JoinedTies
import Derived.KernelRfl
namespace Go.Proofs.Ytnbicogkbcccdaa
/- THE CELL 'sum', in the pinned program and in every row, IS THE sha256 OF THE DUMP (.gsa) THAT YtnbicogkbcccdaaProg.lean LOADS. Nothing in Lean hashes anything: it is a label: what it is worth is what the hold of that sum in a sandbox is worth. -/
noncomputable def Try.pinned : Pinned := { name := "ytnbicogkbcccdaa", sum := "57ec51b774edd23aaafd5e88755da9a22492a29fcb5e1a64b0cfa7f31433edb0", checked := Try.checked }
namespace Rows
def none {H : Type} : Left H := { results := [], args := [] }

/-- 'n003_6.FnMakeRangeHoldsEachInRangeOnce': WHATEVER THE INPUT: true; the input reads as it did. -/
def fnMakeRangeHoldsEachInRangeOnceSpec : ChangeSpec := { name := "fnMakeRangeHoldsEachInRangeOnce", fn := fun _ => fun
  | [d1, d2, d3] => { results := [.lit (.bool true)], args := [d1, d2, d3] }
  | _ => none }
def fnMakeRangeHoldsEachInRangeOnceRow : OpenClaim := { program := "ytnbicogkbcccdaa", sum := "57ec51b774edd23aaafd5e88755da9a22492a29fcb5e1a64b0cfa7f31433edb0", func := "github.com/expr-lang/expr/n003_6.FnMakeRangeHoldsEachInRangeOnce", spec := "fnMakeRangeHoldsEachInRangeOnce", apart := false }
def FnMakeRangeHoldsEachInRangeOnceSaid : Prop := fnMakeRangeHoldsEachInRangeOnceRow.holds Try.pinned (OpenSpec.ofChange fnMakeRangeHoldsEachInRangeOnceSpec)

/-- ITS FALSE NEIGHBOUR: 'it returns false'. Refute it at one input. -/
def fnMakeRangeHoldsEachInRangeOnceWrong : ChangeSpec := { name := "fnMakeRangeHoldsEachInRangeOnce", fn := fun _ => fun
  | [d1, d2, d3] => { results := [.lit (.bool false)], args := [d1, d2, d3] }
  | _ => none }
def FnMakeRangeHoldsEachInRangeOnceWrongFalsely : Prop := fnMakeRangeHoldsEachInRangeOnceRow.holds Try.pinned (OpenSpec.ofChange fnMakeRangeHoldsEachInRangeOnceWrong)

/-- 'n003_6.FnMakeRangeSpansExactlyMinToMax': WHATEVER THE INPUT: true; the input reads as it did. -/
def fnMakeRangeSpansExactlyMinToMaxSpec : ChangeSpec := { name := "fnMakeRangeSpansExactlyMinToMax", fn := fun _ => fun
  | [d1, d2] => { results := [.lit (.bool true)], args := [d1, d2] }
  | _ => none }
def fnMakeRangeSpansExactlyMinToMaxRow : OpenClaim := { program := "ytnbicogkbcccdaa", sum := "57ec51b774edd23aaafd5e88755da9a22492a29fcb5e1a64b0cfa7f31433edb0", func := "github.com/expr-lang/expr/n003_6.FnMakeRangeSpansExactlyMinToMax", spec := "fnMakeRangeSpansExactlyMinToMax", apart := false }
def FnMakeRangeSpansExactlyMinToMaxSaid : Prop := fnMakeRangeSpansExactlyMinToMaxRow.holds Try.pinned (OpenSpec.ofChange fnMakeRangeSpansExactlyMinToMaxSpec)

/-- ITS FALSE NEIGHBOUR: 'it returns false'. Refute it at one input. -/
def fnMakeRangeSpansExactlyMinToMaxWrong : ChangeSpec := { name := "fnMakeRangeSpansExactlyMinToMax", fn := fun _ => fun
  | [d1, d2] => { results := [.lit (.bool false)], args := [d1, d2] }
  | _ => none }
def FnMakeRangeSpansExactlyMinToMaxWrongFalsely : Prop := fnMakeRangeSpansExactlyMinToMaxRow.holds Try.pinned (OpenSpec.ofChange fnMakeRangeSpansExactlyMinToMaxWrong)

/-- 'n003_6.FnMakeRangeSplitConcatenates': WHATEVER THE INPUT: true; the input reads as it did. -/
def fnMakeRangeSplitConcatenatesSpec : ChangeSpec := { name := "fnMakeRangeSplitConcatenates", fn := fun _ => fun
  | [d1, d2, d3] => { results := [.lit (.bool true)], args := [d1, d2, d3] }
  | _ => none }
def fnMakeRangeSplitConcatenatesRow : OpenClaim := { program := "ytnbicogkbcccdaa", sum := "57ec51b774edd23aaafd5e88755da9a22492a29fcb5e1a64b0cfa7f31433edb0", func := "github.com/expr-lang/expr/n003_6.FnMakeRangeSplitConcatenates", spec := "fnMakeRangeSplitConcatenates", apart := false }
def FnMakeRangeSplitConcatenatesSaid : Prop := fnMakeRangeSplitConcatenatesRow.holds Try.pinned (OpenSpec.ofChange fnMakeRangeSplitConcatenatesSpec)

/-- ITS FALSE NEIGHBOUR: 'it returns false'. Refute it at one input. -/
def fnMakeRangeSplitConcatenatesWrong : ChangeSpec := { name := "fnMakeRangeSplitConcatenates", fn := fun _ => fun
  | [d1, d2, d3] => { results := [.lit (.bool false)], args := [d1, d2, d3] }
  | _ => none }
def FnMakeRangeSplitConcatenatesWrongFalsely : Prop := fnMakeRangeSplitConcatenatesRow.holds Try.pinned (OpenSpec.ofChange fnMakeRangeSplitConcatenatesWrong)

/- THE SECOND FORM. 'bulk': how many values and letters a reading holds, each counted each time it is reached (what is shared counts as often as it is met; a slice's spare places count too). A statement '..UptoSaid' is the law's where the arguments, and the package variables that the reading takes, are together of bulk at most 1048576: NARROWER than '..Said'. Prove '..Said' where nothing that the law and all that it calls make is longer than what came in: it says more and counts as full. Else prove '..UptoSaid'. A law counts once. -/
mutual
def uptoBulk {H : Type} : DataW H → Nat
  | .lit (.string bytes) => bytes.length + 1
  | .lit _ => 1
  | .nil => 1
  | .ptr d => uptoBulk d + 1
  | .slice elems spare => uptoBulkAll elems + uptoBulkAll spare + 1
  | .agg parts => uptoBulkAll parts + 1
  | .iface _ d => uptoBulk d + 1
  | .map entries => uptoBulkEntries entries + 1
  | .held _ => 1
def uptoBulkAll {H : Type} : List (DataW H) → Nat
  | [] => 0
  | d :: r => uptoBulk d + uptoBulkAll r
def uptoBulkEntries {H : Type} : List (Lit × DataW H) → Nat
  | [] => 0
  | x :: r => uptoBulkEntry x + uptoBulkEntries r
def uptoBulkEntry {H : Type} : Lit × DataW H → Nat
  | (.string bytes, d) => bytes.length + uptoBulk d + 1
  | (_, d) => uptoBulk d + 1
 end
def uptoSmall : (H : Type) → List (DataW H) → Bool := fun _ ds => decide (uptoBulkAll ds ≤ 1048576)
def OpenSpec.upto (s : _root_.Go.ChangeSpec) : _root_.Go.OpenSpec := { _root_.Go.OpenSpec.ofChange s with cond := some uptoSmall }

/-- 'n003_6.FnMakeRangeHoldsEachInRangeOnce', WHERE WHAT IT READS IS OF BULK AT MOST 1048576: true; the input reads as it did. -/
def fnMakeRangeHoldsEachInRangeOnceUptoRow : OpenClaim := { program := "ytnbicogkbcccdaa", sum := "57ec51b774edd23aaafd5e88755da9a22492a29fcb5e1a64b0cfa7f31433edb0", func := "github.com/expr-lang/expr/n003_6.FnMakeRangeHoldsEachInRangeOnce", spec := "fnMakeRangeHoldsEachInRangeOnce", apart := false, narrowed := true }
def FnMakeRangeHoldsEachInRangeOnceUptoSaid : Prop := fnMakeRangeHoldsEachInRangeOnceUptoRow.holds Try.pinned (OpenSpec.upto fnMakeRangeHoldsEachInRangeOnceSpec)

/-- 'n003_6.FnMakeRangeSpansExactlyMinToMax', WHERE WHAT IT READS IS OF BULK AT MOST 1048576: true; the input reads as it did. -/
def fnMakeRangeSpansExactlyMinToMaxUptoRow : OpenClaim := { program := "ytnbicogkbcccdaa", sum := "57ec51b774edd23aaafd5e88755da9a22492a29fcb5e1a64b0cfa7f31433edb0", func := "github.com/expr-lang/expr/n003_6.FnMakeRangeSpansExactlyMinToMax", spec := "fnMakeRangeSpansExactlyMinToMax", apart := false, narrowed := true }
def FnMakeRangeSpansExactlyMinToMaxUptoSaid : Prop := fnMakeRangeSpansExactlyMinToMaxUptoRow.holds Try.pinned (OpenSpec.upto fnMakeRangeSpansExactlyMinToMaxSpec)

/-- 'n003_6.FnMakeRangeSplitConcatenates', WHERE WHAT IT READS IS OF BULK AT MOST 1048576: true; the input reads as it did. -/
def fnMakeRangeSplitConcatenatesUptoRow : OpenClaim := { program := "ytnbicogkbcccdaa", sum := "57ec51b774edd23aaafd5e88755da9a22492a29fcb5e1a64b0cfa7f31433edb0", func := "github.com/expr-lang/expr/n003_6.FnMakeRangeSplitConcatenates", spec := "fnMakeRangeSplitConcatenates", apart := false, narrowed := true }
def FnMakeRangeSplitConcatenatesUptoSaid : Prop := fnMakeRangeSplitConcatenatesUptoRow.holds Try.pinned (OpenSpec.upto fnMakeRangeSplitConcatenatesSpec)

end Rows
end Go.Proofs.Ytnbicogkbcccdaa
