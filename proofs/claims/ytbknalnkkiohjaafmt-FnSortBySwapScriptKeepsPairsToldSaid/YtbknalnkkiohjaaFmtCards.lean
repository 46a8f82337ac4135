/-
  DERIVED. GIVEN WITH THE SEED: THE CARDS: each row of YtbknalnkkiohjaaFmtRows.lean that lists a variable, with what it lists TIED to the program's text (the seventh form; the later family's looks); each row that meets fmt, with fmt's text TOLD by the authors' own Lean function (tested against real Go, not proved from fmt's source: count such statements apart). THE CARD IS WHAT COUNTS. Prove the row's statement (the work); the ties are given (YtbknalnkkiohjaaFmtTie.lean); close each card by the builder's one call (the guide's Derived/Test/ToyasCard.lean, 'card_holds'). Laid BY PROGRAM, IN A SANDBOX (cutbox-door.mjs). By AI agents, Wed Nov 11 2026. No macro, syntax, notation, axiom, sorry.
-/
import Derived.Test.YtbknalnkkiohjaaFmtRows
import GoSem.ClaimSeven
namespace Go.Proofs.YtbknalnkkiohjaaFmt
namespace Rows

/-- THE TOLD CARD OF 'n003_37.FnSortBySwapExchangesTwo'. -/
def fnSortBySwapExchangesTwoCard : Claim7 := { stood := { row := fnSortBySwapExchangesTwoRow, standIns := [], harness := (true, "75c510a15f6f0c1a9292c1be5863a2b069ee2b5c63534d18356e6e45b227e36a"), looks := true }, told := true, goes := false }
def FnSortBySwapExchangesTwoToldSaid : Prop := Claim7.holds Tryf.pinned (.plain (OpenSpec.ofChange fnSortBySwapExchangesTwoSpec)) fnSortBySwapExchangesTwoCard
/-- ITS FALSE NEIGHBOUR. Refute it at one input. -/
def FnSortBySwapExchangesTwoToldWrongFalsely : Prop := Claim7.holds Tryf.pinned (.plain (OpenSpec.ofChange fnSortBySwapExchangesTwoWrong)) fnSortBySwapExchangesTwoCard

/-- THE TOLD CARD OF 'n003_37.FnSortBySwapScriptKeepsPairs'. -/
def fnSortBySwapScriptKeepsPairsCard : Claim7 := { stood := { row := fnSortBySwapScriptKeepsPairsRow, standIns := [], harness := (true, "75c510a15f6f0c1a9292c1be5863a2b069ee2b5c63534d18356e6e45b227e36a"), looks := true }, told := true, goes := false }
def FnSortBySwapScriptKeepsPairsToldSaid : Prop := Claim7.holds Tryf.pinned (.plain (OpenSpec.ofChange fnSortBySwapScriptKeepsPairsSpec)) fnSortBySwapScriptKeepsPairsCard
/-- ITS FALSE NEIGHBOUR. Refute it at one input. -/
def FnSortBySwapScriptKeepsPairsToldWrongFalsely : Prop := Claim7.holds Tryf.pinned (.plain (OpenSpec.ofChange fnSortBySwapScriptKeepsPairsWrong)) fnSortBySwapScriptKeepsPairsCard
end Rows
end Go.Proofs.YtbknalnkkiohjaaFmt
