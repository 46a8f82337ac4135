/-
  No cell of these rows narrows 'for every input' (looked for: loops, veiled, ifaces, maps, wideKeys, modest, calm, conditions, laid).
  DERIVED. THE GIVEN ROWS OF THIS SEAT. 3 by the template 'for every input the law returns true; each argument reads behind the call as it read before'; 0 by the template 'total and deterministic' (their statements: YtkadajmpmmcnaaaTotals.lean).
  GIVEN WITH THE SEED: the statements are not yours to turn. If you find one false, say at which input.
  Laid BY PROGRAM, IN A SANDBOX (cutbox-rows.mjs): the forced cells as the released guide's own fill.sh prints them over the translation b4c84e1568cac4d8… (all of the seat's roots in one cut). By AI agents, Wed Nov 11 2026. No macro, syntax, notation, axiom, sorry.
-/
import Derived.Test.YtkadajmpmmcnaaaChecked
import GoSem.Claim
import GoSem.ClaimJoined
import GoSem.ClaimMapViews
import Derived.JoinedTies
import Derived.KernelRfl
namespace Go.Proofs.Ytkadajmpmmcnaaa
/- THE CELL 'sum', in the pinned program and in every row, IS THE sha256 OF THE DUMP (.gsa) THAT YtkadajmpmmcnaaaProg.lean LOADS. Nothing in Lean hashes anything: it is a label: what it is worth is what the hold of that sum in a sandbox is worth. -/
noncomputable def Try.pinned : Pinned := { name := "ytkadajmpmmcnaaa", sum := "b4c84e1568cac4d81d5e60176e8a4a41000ca9d2ed94c9ae6d167d359ba7c316", checked := Try.checked }
namespace Rows
def none {H : Type} : Left H := { results := [], args := [] }

/-- 'n003_44.FnSortSwapUndoneBySwapBack': WHATEVER THE INPUT: true; the input reads as it did. -/
def fnSortSwapUndoneBySwapBackSpec : ChangeSpec := { name := "fnSortSwapUndoneBySwapBack", fn := fun _ => fun
  | [d1, d2, d3, d4] => { results := [.lit (.bool true)], args := [d1, d2, d3, d4] }
  | _ => none }
def fnSortSwapUndoneBySwapBackRow : OpenClaim := { program := "ytkadajmpmmcnaaa", sum := "b4c84e1568cac4d81d5e60176e8a4a41000ca9d2ed94c9ae6d167d359ba7c316", func := "github.com/expr-lang/expr/n003_44.FnSortSwapUndoneBySwapBack", spec := "fnSortSwapUndoneBySwapBack", apart := false }
def FnSortSwapUndoneBySwapBackSaid : Prop := fnSortSwapUndoneBySwapBackRow.holds Try.pinned (OpenSpec.ofChange fnSortSwapUndoneBySwapBackSpec)

/-- ITS FALSE NEIGHBOUR: 'it returns false'. Refute it at one input. -/
def fnSortSwapUndoneBySwapBackWrong : ChangeSpec := { name := "fnSortSwapUndoneBySwapBack", fn := fun _ => fun
  | [d1, d2, d3, d4] => { results := [.lit (.bool false)], args := [d1, d2, d3, d4] }
  | _ => none }
def FnSortSwapUndoneBySwapBackWrongFalsely : Prop := fnSortSwapUndoneBySwapBackRow.holds Try.pinned (OpenSpec.ofChange fnSortSwapUndoneBySwapBackWrong)

/-- 'n003_44.FnSortSwapExactPlacement': WHATEVER THE INPUT: true; the input reads as it did. -/
def fnSortSwapExactPlacementSpec : ChangeSpec := { name := "fnSortSwapExactPlacement", fn := fun _ => fun
  | [d1, d2, d3, d4] => { results := [.lit (.bool true)], args := [d1, d2, d3, d4] }
  | _ => none }
def fnSortSwapExactPlacementRow : OpenClaim := { program := "ytkadajmpmmcnaaa", sum := "b4c84e1568cac4d81d5e60176e8a4a41000ca9d2ed94c9ae6d167d359ba7c316", func := "github.com/expr-lang/expr/n003_44.FnSortSwapExactPlacement", spec := "fnSortSwapExactPlacement", apart := false }
def FnSortSwapExactPlacementSaid : Prop := fnSortSwapExactPlacementRow.holds Try.pinned (OpenSpec.ofChange fnSortSwapExactPlacementSpec)

/-- ITS FALSE NEIGHBOUR: 'it returns false'. Refute it at one input. -/
def fnSortSwapExactPlacementWrong : ChangeSpec := { name := "fnSortSwapExactPlacement", fn := fun _ => fun
  | [d1, d2, d3, d4] => { results := [.lit (.bool false)], args := [d1, d2, d3, d4] }
  | _ => none }
def FnSortSwapExactPlacementWrongFalsely : Prop := fnSortSwapExactPlacementRow.holds Try.pinned (OpenSpec.ofChange fnSortSwapExactPlacementWrong)

/-- 'n003_44.FnSortSwapScriptKeepsLenSumXor': WHATEVER THE INPUT: true; the input reads as it did. -/
def fnSortSwapScriptKeepsLenSumXorSpec : ChangeSpec := { name := "fnSortSwapScriptKeepsLenSumXor", fn := fun _ => fun
  | [d1, d2, d3] => { results := [.lit (.bool true)], args := [d1, d2, d3] }
  | _ => none }
def fnSortSwapScriptKeepsLenSumXorRow : OpenClaim := { program := "ytkadajmpmmcnaaa", sum := "b4c84e1568cac4d81d5e60176e8a4a41000ca9d2ed94c9ae6d167d359ba7c316", func := "github.com/expr-lang/expr/n003_44.FnSortSwapScriptKeepsLenSumXor", spec := "fnSortSwapScriptKeepsLenSumXor", apart := false }
def FnSortSwapScriptKeepsLenSumXorSaid : Prop := fnSortSwapScriptKeepsLenSumXorRow.holds Try.pinned (OpenSpec.ofChange fnSortSwapScriptKeepsLenSumXorSpec)

/-- ITS FALSE NEIGHBOUR: 'it returns false'. Refute it at one input. -/
def fnSortSwapScriptKeepsLenSumXorWrong : ChangeSpec := { name := "fnSortSwapScriptKeepsLenSumXor", fn := fun _ => fun
  | [d1, d2, d3] => { results := [.lit (.bool false)], args := [d1, d2, d3] }
  | _ => none }
def FnSortSwapScriptKeepsLenSumXorWrongFalsely : Prop := fnSortSwapScriptKeepsLenSumXorRow.holds Try.pinned (OpenSpec.ofChange fnSortSwapScriptKeepsLenSumXorWrong)

/- THE SECOND FORM. 'bulk': how many values and letters a reading holds, each counted each time it is reached (what is shared counts as often as it is met; a slice's spare places count too). A statement '..UptoSaid' is the law's where the arguments, and the package variables that the reading takes, are together of bulk at most 1048576: NARROWER than '..Said'. Prove '..Said' where nothing that the law and all that it calls make is longer than what came in: it says more and counts as full. Else prove '..UptoSaid'. A law counts once. -/
mutual
def uptoBulk {H : Type} : DataW H → Nat
  | .lit (.string bytes) => bytes.length + 1
  | .lit _ => 1
  | .nil => 1
  | .ptr d => uptoBulk d + 1
  | .slice elems spare => uptoBulkAll elems + uptoBulkAll spare + 1
  | .agg parts => uptoBulkAll parts + 1
  | .iface _ d => uptoBulk d + 1
  | .map entries => uptoBulkEntries entries + 1
  | .held _ => 1
def uptoBulkAll {H : Type} : List (DataW H) → Nat
  | [] => 0
  | d :: r => uptoBulk d + uptoBulkAll r
def uptoBulkEntries {H : Type} : List (Lit × DataW H) → Nat
  | [] => 0
  | x :: r => uptoBulkEntry x + uptoBulkEntries r
def uptoBulkEntry {H : Type} : Lit × DataW H → Nat
  | (.string bytes, d) => bytes.length + uptoBulk d + 1
  | (_, d) => uptoBulk d + 1
 end
def uptoSmall : (H : Type) → List (DataW H) → Bool := fun _ ds => decide (uptoBulkAll ds ≤ 1048576)
def OpenSpec.upto (s : _root_.Go.ChangeSpec) : _root_.Go.OpenSpec := { _root_.Go.OpenSpec.ofChange s with cond := some uptoSmall }

/-- 'n003_44.FnSortSwapUndoneBySwapBack', WHERE WHAT IT READS IS OF BULK AT MOST 1048576: true; the input reads as it did. -/
def fnSortSwapUndoneBySwapBackUptoRow : OpenClaim := { program := "ytkadajmpmmcnaaa", sum := "b4c84e1568cac4d81d5e60176e8a4a41000ca9d2ed94c9ae6d167d359ba7c316", func := "github.com/expr-lang/expr/n003_44.FnSortSwapUndoneBySwapBack", spec := "fnSortSwapUndoneBySwapBack", apart := false, narrowed := true }
def FnSortSwapUndoneBySwapBackUptoSaid : Prop := fnSortSwapUndoneBySwapBackUptoRow.holds Try.pinned (OpenSpec.upto fnSortSwapUndoneBySwapBackSpec)

/-- 'n003_44.FnSortSwapExactPlacement', WHERE WHAT IT READS IS OF BULK AT MOST 1048576: true; the input reads as it did. -/
def fnSortSwapExactPlacementUptoRow : OpenClaim := { program := "ytkadajmpmmcnaaa", sum := "b4c84e1568cac4d81d5e60176e8a4a41000ca9d2ed94c9ae6d167d359ba7c316", func := "github.com/expr-lang/expr/n003_44.FnSortSwapExactPlacement", spec := "fnSortSwapExactPlacement", apart := false, narrowed := true }
def FnSortSwapExactPlacementUptoSaid : Prop := fnSortSwapExactPlacementUptoRow.holds Try.pinned (OpenSpec.upto fnSortSwapExactPlacementSpec)

/-- 'n003_44.FnSortSwapScriptKeepsLenSumXor', WHERE WHAT IT READS IS OF BULK AT MOST 1048576: true; the input reads as it did. -/
def fnSortSwapScriptKeepsLenSumXorUptoRow : OpenClaim := { program := "ytkadajmpmmcnaaa", sum := "b4c84e1568cac4d81d5e60176e8a4a41000ca9d2ed94c9ae6d167d359ba7c316", func := "github.com/expr-lang/expr/n003_44.FnSortSwapScriptKeepsLenSumXor", spec := "fnSortSwapScriptKeepsLenSumXor", apart := false, narrowed := true }
def FnSortSwapScriptKeepsLenSumXorUptoSaid : Prop := fnSortSwapScriptKeepsLenSumXorUptoRow.holds Try.pinned (OpenSpec.upto fnSortSwapScriptKeepsLenSumXorSpec)

end Rows
end Go.Proofs.Ytkadajmpmmcnaaa
