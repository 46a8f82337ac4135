/-
  No cell of these rows narrows 'for every input' (looked for: loops, veiled, ifaces, maps, wideKeys, modest, calm, conditions, laid).
  DERIVED. THE GIVEN ROWS OF THIS SEAT. 2 by the template 'for every input the law returns true; each argument reads behind the call as it read before'; 0 by the template 'total and deterministic' (their statements: YtbknalnkkiohjaaFmtTotals.lean).
  GIVEN WITH THE SEED: the statements are not yours to turn. If you find one false, say at which input.
  Laid BY PROGRAM, IN A SANDBOX (cutbox-rows.mjs): the forced cells as the released guide's own fill.sh prints them over the translation af3eae2e59f731af… (all of the seat's roots in one cut). By AI agents, Wed Nov 11 2026. No macro, syntax, notation, axiom, sorry.
-/
import Derived.Test.YtbknalnkkiohjaaFmtChecked
import GoSem.Claim
import GoSem.ClaimJoined
import GoSem.ClaimMapViews
import Derived.JoinedTies
import Derived.KernelRfl
namespace Go.Proofs.YtbknalnkkiohjaaFmt
/- THE CELL 'sum', in the pinned program and in every row, IS THE sha256 OF THE DUMP (.gsa) THAT YtbknalnkkiohjaaFmtProg.lean LOADS. Nothing in Lean hashes anything: it is a label: what it is worth is what the hold of that sum in a sandbox is worth. -/
noncomputable def Tryf.pinned : Pinned := { name := "ytbknalnkkiohjaafmt", sum := "af3eae2e59f731af9a7a829a52a61c93969d7dad88ec3ea08fed59e4291be674", checked := Tryf.checked }
namespace Rows
def none {H : Type} : Left H := { results := [], args := [] }

/-- 'n003_37.FnSortBySwapExchangesTwo': WHATEVER THE INPUT: true; the input reads as it did. -/
def fnSortBySwapExchangesTwoSpec : ChangeSpec := { name := "fnSortBySwapExchangesTwo", fn := fun _ => fun
  | [d1, d2, d3, d4] => { results := [.lit (.bool true)], args := [d1, d2, d3, d4] }
  | _ => none }
def fnSortBySwapExchangesTwoRow : OpenClaim := { program := "ytbknalnkkiohjaafmt", sum := "af3eae2e59f731af9a7a829a52a61c93969d7dad88ec3ea08fed59e4291be674", func := "github.com/expr-lang/expr/n003_37.FnSortBySwapExchangesTwo", spec := "fnSortBySwapExchangesTwo", stops := ["fmt.Sprintf"], inPlace := ["fmt.Sprintf"], apart := false }
/-- NO THEOREM (fmt's text is open here; it may be false): for the released tool's asking of the row's closed facts alone. THE STATEMENT IS 'FnSortBySwapExchangesTwoToldSaid' (YtbknalnkkiohjaaFmtCards.lean). -/
def FnSortBySwapExchangesTwoFormAsk : Prop := fnSortBySwapExchangesTwoRow.holds Tryf.pinned (OpenSpec.ofChange fnSortBySwapExchangesTwoSpec)

/-- ITS FALSE NEIGHBOUR: 'it returns false'. Refute it at one input. -/
def fnSortBySwapExchangesTwoWrong : ChangeSpec := { name := "fnSortBySwapExchangesTwo", fn := fun _ => fun
  | [d1, d2, d3, d4] => { results := [.lit (.bool false)], args := [d1, d2, d3, d4] }
  | _ => none }
def FnSortBySwapExchangesTwoWrongFormAsk : Prop := fnSortBySwapExchangesTwoRow.holds Tryf.pinned (OpenSpec.ofChange fnSortBySwapExchangesTwoWrong)

/-- 'n003_37.FnSortBySwapScriptKeepsPairs': WHATEVER THE INPUT: true; the input reads as it did. -/
def fnSortBySwapScriptKeepsPairsSpec : ChangeSpec := { name := "fnSortBySwapScriptKeepsPairs", fn := fun _ => fun
  | [d1, d2] => { results := [.lit (.bool true)], args := [d1, d2] }
  | _ => none }
def fnSortBySwapScriptKeepsPairsRow : OpenClaim := { program := "ytbknalnkkiohjaafmt", sum := "af3eae2e59f731af9a7a829a52a61c93969d7dad88ec3ea08fed59e4291be674", func := "github.com/expr-lang/expr/n003_37.FnSortBySwapScriptKeepsPairs", spec := "fnSortBySwapScriptKeepsPairs", stops := ["fmt.Sprintf"], inPlace := ["fmt.Sprintf"], apart := false }
/-- NO THEOREM (fmt's text is open here; it may be false): for the released tool's asking of the row's closed facts alone. THE STATEMENT IS 'FnSortBySwapScriptKeepsPairsToldSaid' (YtbknalnkkiohjaaFmtCards.lean). -/
def FnSortBySwapScriptKeepsPairsFormAsk : Prop := fnSortBySwapScriptKeepsPairsRow.holds Tryf.pinned (OpenSpec.ofChange fnSortBySwapScriptKeepsPairsSpec)

/-- ITS FALSE NEIGHBOUR: 'it returns false'. Refute it at one input. -/
def fnSortBySwapScriptKeepsPairsWrong : ChangeSpec := { name := "fnSortBySwapScriptKeepsPairs", fn := fun _ => fun
  | [d1, d2] => { results := [.lit (.bool false)], args := [d1, d2] }
  | _ => none }
def FnSortBySwapScriptKeepsPairsWrongFormAsk : Prop := fnSortBySwapScriptKeepsPairsRow.holds Tryf.pinned (OpenSpec.ofChange fnSortBySwapScriptKeepsPairsWrong)

end Rows
end Go.Proofs.YtbknalnkkiohjaaFmt
