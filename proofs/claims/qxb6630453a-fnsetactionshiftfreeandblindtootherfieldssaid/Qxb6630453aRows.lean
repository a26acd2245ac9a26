/-
  No cell of these rows narrows 'for every input' (looked for: loops, veiled, ifaces, maps, wideKeys, modest, calm, conditions, laid).
  DERIVED. THE GIVEN ROWS OF THIS SEAT. 2 by the template 'for every input the law returns true; each argument reads behind the call as it read before'; 0 by the template 'total and deterministic' (their statements: Qxb6630453aTotals.lean).
  GIVEN WITH THE SEED: the statements are not yours to turn. If you find one false, say at which input.
  Laid BY PROGRAM, IN A SANDBOX (cutbox-rows.mjs): the forced cells as the released guide's own fill.sh prints them over the translation 90880f84ea1a679a… (all of the seat's roots in one cut). By AI agents, Wed Nov 11 2026. No macro, syntax, notation, axiom, sorry.
-/
import Derived.Test.Qxb6630453aChecked
import GoSem.Claim
import GoSem.ClaimJoined
import GoSem.ClaimMapViews
import Derived.JoinedTies
import Derived.KernelRfl
namespace Go.Proofs.Qxb6630453a
/- THE CELL 'sum', in the pinned program and in every row, IS THE sha256 OF THE DUMP (.gsa) THAT Qxb6630453aProg.lean LOADS. Nothing in Lean hashes anything: it is a label: what it is worth is what the hold of that sum in a sandbox is worth. -/
noncomputable def Try.pinned : Pinned := { name := "qxb6630453a", sum := "90880f84ea1a679adbb7cd3946ec7782e3cefe25554d8eb1e86eb7eb521a4041", checked := Try.checked }
namespace Rows
def none {H : Type} : Left H := { results := [], args := [] }

/-- 'zzlaws_internal_engine_b1.FnSetActionSwapMirrorsAndUpMeansGrowth': WHATEVER THE INPUT: true; the input reads as it did. -/
def fnSetActionSwapMirrorsAndUpMeansGrowthSpec : ChangeSpec := { name := "fnSetActionSwapMirrorsAndUpMeansGrowth", fn := fun _ => fun
  | [d1, d2, d3, d4, d5, d6, d7, d8] => { results := [.lit (.bool true)], args := [d1, d2, d3, d4, d5, d6, d7, d8] }
  | _ => none }
def fnSetActionSwapMirrorsAndUpMeansGrowthRow : OpenClaim := { program := "qxb6630453a", sum := "90880f84ea1a679adbb7cd3946ec7782e3cefe25554d8eb1e86eb7eb521a4041", func := "example.com/headroom/headroom/zzlaws_internal_engine_b1.FnSetActionSwapMirrorsAndUpMeansGrowth", spec := "fnSetActionSwapMirrorsAndUpMeansGrowth", apart := false }
def FnSetActionSwapMirrorsAndUpMeansGrowthSaid : Prop := fnSetActionSwapMirrorsAndUpMeansGrowthRow.holds Try.pinned (OpenSpec.ofChange fnSetActionSwapMirrorsAndUpMeansGrowthSpec)

/-- ITS FALSE NEIGHBOUR: 'it returns false'. Refute it at one input. -/
def fnSetActionSwapMirrorsAndUpMeansGrowthWrong : ChangeSpec := { name := "fnSetActionSwapMirrorsAndUpMeansGrowth", fn := fun _ => fun
  | [d1, d2, d3, d4, d5, d6, d7, d8] => { results := [.lit (.bool false)], args := [d1, d2, d3, d4, d5, d6, d7, d8] }
  | _ => none }
def FnSetActionSwapMirrorsAndUpMeansGrowthWrongFalsely : Prop := fnSetActionSwapMirrorsAndUpMeansGrowthRow.holds Try.pinned (OpenSpec.ofChange fnSetActionSwapMirrorsAndUpMeansGrowthWrong)

/-- 'zzlaws_internal_engine_b1.FnSetActionShiftFreeAndBlindToOtherFields': WHATEVER THE INPUT: true; the input reads as it did. -/
def fnSetActionShiftFreeAndBlindToOtherFieldsSpec : ChangeSpec := { name := "fnSetActionShiftFreeAndBlindToOtherFields", fn := fun _ => fun
  | [d1, d2, d3, d4, d5, d6, d7, d8, d9, d10] => { results := [.lit (.bool true)], args := [d1, d2, d3, d4, d5, d6, d7, d8, d9, d10] }
  | _ => none }
def fnSetActionShiftFreeAndBlindToOtherFieldsRow : OpenClaim := { program := "qxb6630453a", sum := "90880f84ea1a679adbb7cd3946ec7782e3cefe25554d8eb1e86eb7eb521a4041", func := "example.com/headroom/headroom/zzlaws_internal_engine_b1.FnSetActionShiftFreeAndBlindToOtherFields", spec := "fnSetActionShiftFreeAndBlindToOtherFields", apart := false }
def FnSetActionShiftFreeAndBlindToOtherFieldsSaid : Prop := fnSetActionShiftFreeAndBlindToOtherFieldsRow.holds Try.pinned (OpenSpec.ofChange fnSetActionShiftFreeAndBlindToOtherFieldsSpec)

/-- ITS FALSE NEIGHBOUR: 'it returns false'. Refute it at one input. -/
def fnSetActionShiftFreeAndBlindToOtherFieldsWrong : ChangeSpec := { name := "fnSetActionShiftFreeAndBlindToOtherFields", fn := fun _ => fun
  | [d1, d2, d3, d4, d5, d6, d7, d8, d9, d10] => { results := [.lit (.bool false)], args := [d1, d2, d3, d4, d5, d6, d7, d8, d9, d10] }
  | _ => none }
def FnSetActionShiftFreeAndBlindToOtherFieldsWrongFalsely : Prop := fnSetActionShiftFreeAndBlindToOtherFieldsRow.holds Try.pinned (OpenSpec.ofChange fnSetActionShiftFreeAndBlindToOtherFieldsWrong)

end Rows
end Go.Proofs.Qxb6630453a
