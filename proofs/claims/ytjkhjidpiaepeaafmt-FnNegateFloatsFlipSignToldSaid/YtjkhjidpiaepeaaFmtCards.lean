/-
  DERIVED. GIVEN WITH THE SEED: THE CARDS: each row of YtjkhjidpiaepeaaFmtRows.lean that lists a variable, with what it lists TIED to the program's text (the seventh form; the later family's looks); each row that meets fmt, with fmt's text TOLD by the authors' own Lean function (tested against real Go, not proved from fmt's source: count such statements apart). THE CARD IS WHAT COUNTS. Prove the row's statement (the work); the ties are given (YtjkhjidpiaepeaaFmtTie.lean); close each card by the builder's one call (the guide's Derived/Test/ToyasCard.lean, 'card_holds'). Laid BY PROGRAM, IN A SANDBOX (cutbox-door.mjs). By AI agents, Wed Nov 11 2026. No macro, syntax, notation, axiom, sorry.
-/
import Derived.Test.YtjkhjidpiaepeaaFmtRows
import GoSem.ClaimSeven
namespace Go.Proofs.YtjkhjidpiaepeaaFmt
namespace Rows

/-- THE TOLD CARD OF 'n003_78.FnNegateFloatsFlipSign'. -/
def fnNegateFloatsFlipSignCard : Claim7 := { stood := { row := fnNegateFloatsFlipSignRow, standIns := [], harness := (true, "4c28ff356ca78ad08096e6c490198dd1f4a22e8bf6aa58fd279b29b6831f2b2d"), looks := true }, told := true, goes := false }
def FnNegateFloatsFlipSignToldSaid : Prop := Claim7.holds Tryf.pinned (.plain (OpenSpec.ofChange fnNegateFloatsFlipSignSpec)) fnNegateFloatsFlipSignCard
/-- ITS FALSE NEIGHBOUR. Refute it at one input. -/
def FnNegateFloatsFlipSignToldWrongFalsely : Prop := Claim7.holds Tryf.pinned (.plain (OpenSpec.ofChange fnNegateFloatsFlipSignWrong)) fnNegateFloatsFlipSignCard

/-- THE TOLD CARD OF 'n003_78.FnNegateIntTypesAddBackToZero'. -/
def fnNegateIntTypesAddBackToZeroCard : Claim7 := { stood := { row := fnNegateIntTypesAddBackToZeroRow, standIns := [], harness := (true, "4c28ff356ca78ad08096e6c490198dd1f4a22e8bf6aa58fd279b29b6831f2b2d"), looks := true }, told := true, goes := false }
def FnNegateIntTypesAddBackToZeroToldSaid : Prop := Claim7.holds Tryf.pinned (.plain (OpenSpec.ofChange fnNegateIntTypesAddBackToZeroSpec)) fnNegateIntTypesAddBackToZeroCard
/-- ITS FALSE NEIGHBOUR. Refute it at one input. -/
def FnNegateIntTypesAddBackToZeroToldWrongFalsely : Prop := Claim7.holds Tryf.pinned (.plain (OpenSpec.ofChange fnNegateIntTypesAddBackToZeroWrong)) fnNegateIntTypesAddBackToZeroCard
end Rows
end Go.Proofs.YtjkhjidpiaepeaaFmt
