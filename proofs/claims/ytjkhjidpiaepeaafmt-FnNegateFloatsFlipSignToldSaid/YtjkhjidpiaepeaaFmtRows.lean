/-
  No cell of these rows narrows 'for every input' (looked for: loops, veiled, ifaces, maps, wideKeys, modest, calm, conditions, laid).
  DERIVED. THE GIVEN ROWS OF THIS SEAT. 2 by the template 'for every input the law returns true; each argument reads behind the call as it read before'; 0 by the template 'total and deterministic' (their statements: YtjkhjidpiaepeaaFmtTotals.lean).
  GIVEN WITH THE SEED: the statements are not yours to turn. If you find one false, say at which input.
  Laid BY PROGRAM, IN A SANDBOX (cutbox-rows.mjs): the forced cells as the released guide's own fill.sh prints them over the translation 2ed95100cdb91ad6… (all of the seat's roots in one cut). By AI agents, Wed Nov 11 2026. No macro, syntax, notation, axiom, sorry.
-/
import Derived.Test.YtjkhjidpiaepeaaFmtChecked
import GoSem.Claim
import GoSem.ClaimJoined
import GoSem.ClaimMapViews
import Derived.JoinedTies
import Derived.KernelRfl
namespace Go.Proofs.YtjkhjidpiaepeaaFmt
/- THE CELL 'sum', in the pinned program and in every row, IS THE sha256 OF THE DUMP (.gsa) THAT YtjkhjidpiaepeaaFmtProg.lean LOADS. Nothing in Lean hashes anything: it is a label: what it is worth is what the hold of that sum in a sandbox is worth. -/
noncomputable def Tryf.pinned : Pinned := { name := "ytjkhjidpiaepeaafmt", sum := "2ed95100cdb91ad6a56142c5ea15ed2db1bfb60f4df098fe205fbb7f7ab4ae56", checked := Tryf.checked }
namespace Rows
def none {H : Type} : Left H := { results := [], args := [] }

/-- 'n003_78.FnNegateFloatsFlipSign': WHATEVER THE INPUT: true; the input reads as it did. -/
def fnNegateFloatsFlipSignSpec : ChangeSpec := { name := "fnNegateFloatsFlipSign", fn := fun _ => fun
  | [d1, d2] => { results := [.lit (.bool true)], args := [d1, d2] }
  | _ => none }
def fnNegateFloatsFlipSignRow : OpenClaim := { program := "ytjkhjidpiaepeaafmt", sum := "2ed95100cdb91ad6a56142c5ea15ed2db1bfb60f4df098fe205fbb7f7ab4ae56", func := "github.com/expr-lang/expr/n003_78.FnNegateFloatsFlipSign", spec := "fnNegateFloatsFlipSign", stops := ["fmt.Sprintf"], inPlace := ["fmt.Sprintf"], apart := false }
/-- NO THEOREM (fmt's text is open here; it may be false): for the released tool's asking of the row's closed facts alone. THE STATEMENT IS 'FnNegateFloatsFlipSignToldSaid' (YtjkhjidpiaepeaaFmtCards.lean). -/
def FnNegateFloatsFlipSignFormAsk : Prop := fnNegateFloatsFlipSignRow.holds Tryf.pinned (OpenSpec.ofChange fnNegateFloatsFlipSignSpec)

/-- ITS FALSE NEIGHBOUR: 'it returns false'. Refute it at one input. -/
def fnNegateFloatsFlipSignWrong : ChangeSpec := { name := "fnNegateFloatsFlipSign", fn := fun _ => fun
  | [d1, d2] => { results := [.lit (.bool false)], args := [d1, d2] }
  | _ => none }
def FnNegateFloatsFlipSignWrongFormAsk : Prop := fnNegateFloatsFlipSignRow.holds Tryf.pinned (OpenSpec.ofChange fnNegateFloatsFlipSignWrong)

/-- 'n003_78.FnNegateIntTypesAddBackToZero': WHATEVER THE INPUT: true; the input reads as it did. -/
def fnNegateIntTypesAddBackToZeroSpec : ChangeSpec := { name := "fnNegateIntTypesAddBackToZero", fn := fun _ => fun
  | [d1, d2, d3, d4, d5, d6, d7, d8, d9, d10] => { results := [.lit (.bool true)], args := [d1, d2, d3, d4, d5, d6, d7, d8, d9, d10] }
  | _ => none }
def fnNegateIntTypesAddBackToZeroRow : OpenClaim := { program := "ytjkhjidpiaepeaafmt", sum := "2ed95100cdb91ad6a56142c5ea15ed2db1bfb60f4df098fe205fbb7f7ab4ae56", func := "github.com/expr-lang/expr/n003_78.FnNegateIntTypesAddBackToZero", spec := "fnNegateIntTypesAddBackToZero", stops := ["fmt.Sprintf"], inPlace := ["fmt.Sprintf"], apart := false }
/-- NO THEOREM (fmt's text is open here; it may be false): for the released tool's asking of the row's closed facts alone. THE STATEMENT IS 'FnNegateIntTypesAddBackToZeroToldSaid' (YtjkhjidpiaepeaaFmtCards.lean). -/
def FnNegateIntTypesAddBackToZeroFormAsk : Prop := fnNegateIntTypesAddBackToZeroRow.holds Tryf.pinned (OpenSpec.ofChange fnNegateIntTypesAddBackToZeroSpec)

/-- ITS FALSE NEIGHBOUR: 'it returns false'. Refute it at one input. -/
def fnNegateIntTypesAddBackToZeroWrong : ChangeSpec := { name := "fnNegateIntTypesAddBackToZero", fn := fun _ => fun
  | [d1, d2, d3, d4, d5, d6, d7, d8, d9, d10] => { results := [.lit (.bool false)], args := [d1, d2, d3, d4, d5, d6, d7, d8, d9, d10] }
  | _ => none }
def FnNegateIntTypesAddBackToZeroWrongFormAsk : Prop := fnNegateIntTypesAddBackToZeroRow.holds Tryf.pinned (OpenSpec.ofChange fnNegateIntTypesAddBackToZeroWrong)

end Rows
end Go.Proofs.YtjkhjidpiaepeaaFmt
