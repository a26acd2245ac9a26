/-
  No cell of these rows narrows 'for every input' (looked for: loops, veiled, ifaces, maps, wideKeys, modest, calm, conditions, laid).
  DERIVED. THE GIVEN ROWS OF THIS SEAT. 2 by the template 'for every input the law returns true; each argument reads behind the call as it read before'; 0 by the template 'total and deterministic' (their statements: Qxb6631227aTotals.lean).
  GIVEN WITH THE SEED: the statements are not yours to turn. If you find one false, say at which input.
  Laid BY PROGRAM, IN A SANDBOX (cutbox-rows.mjs): the forced cells as the released guide's own fill.sh prints them over the translation 1811723250cf75ea… (all of the seat's roots in one cut). By AI agents, Wed Nov 11 2026. No macro, syntax, notation, axiom, sorry.
-/
import Derived.Test.Qxb6631227aChecked
import GoSem.Claim
import GoSem.ClaimJoined
import GoSem.ClaimMapViews
import Derived.JoinedTies
import Derived.KernelRfl
namespace Go.Proofs.Qxb6631227a
/- THE CELL 'sum', in the pinned program and in every row, IS THE sha256 OF THE DUMP (.gsa) THAT Qxb6631227aProg.lean LOADS. Nothing in Lean hashes anything: it is a label: what it is worth is what the hold of that sum in a sandbox is worth. -/
noncomputable def Try.pinned : Pinned := { name := "qxb6631227a", sum := "1811723250cf75ea03a08825af12b012a2911ae3b588021adff02873e50c7a0f", checked := Try.checked }
namespace Rows
def none {H : Type} : Left H := { results := [], args := [] }

/-- 'zzlaws_root_b1.FnNATDMessagesFirstAfterKeyExchangeAndPeerHello': WHATEVER THE INPUT: true; the input reads as it did. -/
def fnNATDMessagesFirstAfterKeyExchangeAndPeerHelloSpec : ChangeSpec := { name := "fnNATDMessagesFirstAfterKeyExchangeAndPeerHello", fn := fun _ => fun
  | [d] => { results := [.lit (.bool true)], args := [d] }
  | _ => none }
def fnNATDMessagesFirstAfterKeyExchangeAndPeerHelloRow : OpenClaim := { program := "qxb6631227a", sum := "1811723250cf75ea03a08825af12b012a2911ae3b588021adff02873e50c7a0f", func := "example.com/natweave/natweave/zzlaws_root_b1.FnNATDMessagesFirstAfterKeyExchangeAndPeerHello", spec := "fnNATDMessagesFirstAfterKeyExchangeAndPeerHello", apart := false }
def FnNATDMessagesFirstAfterKeyExchangeAndPeerHelloSaid : Prop := fnNATDMessagesFirstAfterKeyExchangeAndPeerHelloRow.holds Try.pinned (OpenSpec.ofChange fnNATDMessagesFirstAfterKeyExchangeAndPeerHelloSpec)

/-- ITS FALSE NEIGHBOUR: 'it returns false'. Refute it at one input. -/
def fnNATDMessagesFirstAfterKeyExchangeAndPeerHelloWrong : ChangeSpec := { name := "fnNATDMessagesFirstAfterKeyExchangeAndPeerHello", fn := fun _ => fun
  | [d] => { results := [.lit (.bool false)], args := [d] }
  | _ => none }
def FnNATDMessagesFirstAfterKeyExchangeAndPeerHelloWrongFalsely : Prop := fnNATDMessagesFirstAfterKeyExchangeAndPeerHelloRow.holds Try.pinned (OpenSpec.ofChange fnNATDMessagesFirstAfterKeyExchangeAndPeerHelloWrong)

/-- 'zzlaws_root_b1.FnNATDMessagesScheduleNamesItsMode': WHATEVER THE INPUT: true; the input reads as it did. -/
def fnNATDMessagesScheduleNamesItsModeSpec : ChangeSpec := { name := "fnNATDMessagesScheduleNamesItsMode", fn := fun _ => fun
  | [d] => { results := [.lit (.bool true)], args := [d] }
  | _ => none }
def fnNATDMessagesScheduleNamesItsModeRow : OpenClaim := { program := "qxb6631227a", sum := "1811723250cf75ea03a08825af12b012a2911ae3b588021adff02873e50c7a0f", func := "example.com/natweave/natweave/zzlaws_root_b1.FnNATDMessagesScheduleNamesItsMode", spec := "fnNATDMessagesScheduleNamesItsMode", apart := false }
def FnNATDMessagesScheduleNamesItsModeSaid : Prop := fnNATDMessagesScheduleNamesItsModeRow.holds Try.pinned (OpenSpec.ofChange fnNATDMessagesScheduleNamesItsModeSpec)

/-- ITS FALSE NEIGHBOUR: 'it returns false'. Refute it at one input. -/
def fnNATDMessagesScheduleNamesItsModeWrong : ChangeSpec := { name := "fnNATDMessagesScheduleNamesItsMode", fn := fun _ => fun
  | [d] => { results := [.lit (.bool false)], args := [d] }
  | _ => none }
def FnNATDMessagesScheduleNamesItsModeWrongFalsely : Prop := fnNATDMessagesScheduleNamesItsModeRow.holds Try.pinned (OpenSpec.ofChange fnNATDMessagesScheduleNamesItsModeWrong)

end Rows
end Go.Proofs.Qxb6631227a
