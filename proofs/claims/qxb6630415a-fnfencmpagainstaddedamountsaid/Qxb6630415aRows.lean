/-
  No cell of these rows narrows 'for every input' (looked for: loops, veiled, ifaces, maps, wideKeys, modest, calm, conditions, laid).
  DERIVED. THE GIVEN ROWS OF THIS SEAT. 2 by the template 'for every input the law returns true; each argument reads behind the call as it read before'; 0 by the template 'total and deterministic' (their statements: Qxb6630415aTotals.lean).
  GIVEN WITH THE SEED: the statements are not yours to turn. If you find one false, say at which input.
  Laid BY PROGRAM, IN A SANDBOX (cutbox-rows.mjs): the forced cells as the released guide's own fill.sh prints them over the translation d6d5b471ebeadc39… (all of the seat's roots in one cut). By AI agents, Wed Nov 11 2026. No macro, syntax, notation, axiom, sorry.
-/
import Derived.Test.Qxb6630415aChecked
import GoSem.Claim
import GoSem.ClaimJoined
import GoSem.ClaimMapViews
import Derived.JoinedTies
import Derived.KernelRfl
namespace Go.Proofs.Qxb6630415a
/- THE CELL 'sum', in the pinned program and in every row, IS THE sha256 OF THE DUMP (.gsa) THAT Qxb6630415aProg.lean LOADS. Nothing in Lean hashes anything: it is a label: what it is worth is what the hold of that sum in a sandbox is worth. -/
noncomputable def Try.pinned : Pinned := { name := "qxb6630415a", sum := "d6d5b471ebeadc398b8a99ec72dfc7ab16695b29132c40aa5b1cccf26dc78861", checked := Try.checked }
namespace Rows
def none {H : Type} : Left H := { results := [], args := [] }

/-- 'zzlaws_fund_b1.FnFenCmpShiftInvariant': WHATEVER THE INPUT: true; the input reads as it did. -/
def fnFenCmpShiftInvariantSpec : ChangeSpec := { name := "fnFenCmpShiftInvariant", fn := fun _ => fun
  | [d1, d2, d3] => { results := [.lit (.bool true)], args := [d1, d2, d3] }
  | _ => none }
def fnFenCmpShiftInvariantRow : OpenClaim := { program := "qxb6630415a", sum := "d6d5b471ebeadc398b8a99ec72dfc7ab16695b29132c40aa5b1cccf26dc78861", func := "example.com/tuoguan/tuoguan/zzlaws_fund_b1.FnFenCmpShiftInvariant", spec := "fnFenCmpShiftInvariant", inPlace := ["math/big.addVV", "math/bits.Add64", "math/big.subVV", "math/bits.Sub64"], recurses := true, apart := false }
def FnFenCmpShiftInvariantSaid : Prop := fnFenCmpShiftInvariantRow.holds Try.pinned (OpenSpec.ofChange fnFenCmpShiftInvariantSpec)

/-- ITS FALSE NEIGHBOUR: 'it returns false'. Refute it at one input. -/
def fnFenCmpShiftInvariantWrong : ChangeSpec := { name := "fnFenCmpShiftInvariant", fn := fun _ => fun
  | [d1, d2, d3] => { results := [.lit (.bool false)], args := [d1, d2, d3] }
  | _ => none }
def FnFenCmpShiftInvariantWrongFalsely : Prop := fnFenCmpShiftInvariantRow.holds Try.pinned (OpenSpec.ofChange fnFenCmpShiftInvariantWrong)

/-- 'zzlaws_fund_b1.FnFenCmpAgainstAddedAmount': WHATEVER THE INPUT: true; the input reads as it did. -/
def fnFenCmpAgainstAddedAmountSpec : ChangeSpec := { name := "fnFenCmpAgainstAddedAmount", fn := fun _ => fun
  | [d1, d2] => { results := [.lit (.bool true)], args := [d1, d2] }
  | _ => none }
def fnFenCmpAgainstAddedAmountRow : OpenClaim := { program := "qxb6630415a", sum := "d6d5b471ebeadc398b8a99ec72dfc7ab16695b29132c40aa5b1cccf26dc78861", func := "example.com/tuoguan/tuoguan/zzlaws_fund_b1.FnFenCmpAgainstAddedAmount", spec := "fnFenCmpAgainstAddedAmount", inPlace := ["math/big.addVV", "math/bits.Add64", "math/big.subVV", "math/bits.Sub64"], recurses := true, apart := false }
def FnFenCmpAgainstAddedAmountSaid : Prop := fnFenCmpAgainstAddedAmountRow.holds Try.pinned (OpenSpec.ofChange fnFenCmpAgainstAddedAmountSpec)

/-- ITS FALSE NEIGHBOUR: 'it returns false'. Refute it at one input. -/
def fnFenCmpAgainstAddedAmountWrong : ChangeSpec := { name := "fnFenCmpAgainstAddedAmount", fn := fun _ => fun
  | [d1, d2] => { results := [.lit (.bool false)], args := [d1, d2] }
  | _ => none }
def FnFenCmpAgainstAddedAmountWrongFalsely : Prop := fnFenCmpAgainstAddedAmountRow.holds Try.pinned (OpenSpec.ofChange fnFenCmpAgainstAddedAmountWrong)

end Rows
end Go.Proofs.Qxb6630415a
