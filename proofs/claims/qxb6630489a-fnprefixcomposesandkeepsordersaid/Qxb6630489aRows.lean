/-
  No cell of these rows narrows 'for every input' (looked for: loops, veiled, ifaces, maps, wideKeys, modest, calm, conditions, laid).
  DERIVED. THE GIVEN ROWS OF THIS SEAT. 2 by the template 'for every input the law returns true; each argument reads behind the call as it read before'; 0 by the template 'total and deterministic' (their statements: Qxb6630489aTotals.lean).
  GIVEN WITH THE SEED: the statements are not yours to turn. If you find one false, say at which input.
  Laid BY PROGRAM, IN A SANDBOX (cutbox-rows.mjs): the forced cells as the released guide's own fill.sh prints them over the translation 66b65d3b3033939b… (all of the seat's roots in one cut). By AI agents, Wed Nov 11 2026. No macro, syntax, notation, axiom, sorry.
-/
import Derived.Test.Qxb6630489aChecked
import GoSem.Claim
import GoSem.ClaimJoined
import GoSem.ClaimMapViews
import Derived.JoinedTies
import Derived.KernelRfl
namespace Go.Proofs.Qxb6630489a
/- THE CELL 'sum', in the pinned program and in every row, IS THE sha256 OF THE DUMP (.gsa) THAT Qxb6630489aProg.lean LOADS. Nothing in Lean hashes anything: it is a label: what it is worth is what the hold of that sum in a sandbox is worth. -/
noncomputable def Try.pinned : Pinned := { name := "qxb6630489a", sum := "66b65d3b3033939b65a1ea9dc425dd88e77faffb6d051fe5c9857ec4ed0f2112", checked := Try.checked }
namespace Rows
def none {H : Type} : Left H := { results := [], args := [] }

/-- 'zzlaws_internal_storage_b1.FnPrefixTakesFirstNCharacters': WHATEVER THE INPUT: true; the input reads as it did. -/
def fnPrefixTakesFirstNCharactersSpec : ChangeSpec := { name := "fnPrefixTakesFirstNCharacters", fn := fun _ => fun
  | [d1, d2, d3] => { results := [.lit (.bool true)], args := [d1, d2, d3] }
  | _ => none }
def fnPrefixTakesFirstNCharactersRow : OpenClaim := { program := "qxb6630489a", sum := "66b65d3b3033939b65a1ea9dc425dd88e77faffb6d051fe5c9857ec4ed0f2112", func := "example.com/isolith/isolith/zzlaws_internal_storage_b1.FnPrefixTakesFirstNCharacters", spec := "fnPrefixTakesFirstNCharacters", apart := false }
def FnPrefixTakesFirstNCharactersSaid : Prop := fnPrefixTakesFirstNCharactersRow.holds Try.pinned (OpenSpec.ofChange fnPrefixTakesFirstNCharactersSpec)

/-- ITS FALSE NEIGHBOUR: 'it returns false'. Refute it at one input. -/
def fnPrefixTakesFirstNCharactersWrong : ChangeSpec := { name := "fnPrefixTakesFirstNCharacters", fn := fun _ => fun
  | [d1, d2, d3] => { results := [.lit (.bool false)], args := [d1, d2, d3] }
  | _ => none }
def FnPrefixTakesFirstNCharactersWrongFalsely : Prop := fnPrefixTakesFirstNCharactersRow.holds Try.pinned (OpenSpec.ofChange fnPrefixTakesFirstNCharactersWrong)

/-- 'zzlaws_internal_storage_b1.FnPrefixComposesAndKeepsOrder': WHATEVER THE INPUT: true; the input reads as it did. -/
def fnPrefixComposesAndKeepsOrderSpec : ChangeSpec := { name := "fnPrefixComposesAndKeepsOrder", fn := fun _ => fun
  | [d1, d2, d3, d4] => { results := [.lit (.bool true)], args := [d1, d2, d3, d4] }
  | _ => none }
def fnPrefixComposesAndKeepsOrderRow : OpenClaim := { program := "qxb6630489a", sum := "66b65d3b3033939b65a1ea9dc425dd88e77faffb6d051fe5c9857ec4ed0f2112", func := "example.com/isolith/isolith/zzlaws_internal_storage_b1.FnPrefixComposesAndKeepsOrder", spec := "fnPrefixComposesAndKeepsOrder", apart := false }
def FnPrefixComposesAndKeepsOrderSaid : Prop := fnPrefixComposesAndKeepsOrderRow.holds Try.pinned (OpenSpec.ofChange fnPrefixComposesAndKeepsOrderSpec)

/-- ITS FALSE NEIGHBOUR: 'it returns false'. Refute it at one input. -/
def fnPrefixComposesAndKeepsOrderWrong : ChangeSpec := { name := "fnPrefixComposesAndKeepsOrder", fn := fun _ => fun
  | [d1, d2, d3, d4] => { results := [.lit (.bool false)], args := [d1, d2, d3, d4] }
  | _ => none }
def FnPrefixComposesAndKeepsOrderWrongFalsely : Prop := fnPrefixComposesAndKeepsOrderRow.holds Try.pinned (OpenSpec.ofChange fnPrefixComposesAndKeepsOrderWrong)

end Rows
end Go.Proofs.Qxb6630489a
