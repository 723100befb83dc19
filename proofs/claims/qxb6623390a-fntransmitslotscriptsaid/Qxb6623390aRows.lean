/-
  No cell of these rows narrows 'for every input' (looked for: loops, veiled, ifaces, maps, wideKeys, modest, calm, conditions, laid).
  DERIVED. THE GIVEN ROWS OF THIS SEAT. 1 by the template 'for every input the law returns true; each argument reads behind the call as it read before'; 0 by the template 'total and deterministic' (their statements: Qxb6623390aTotals.lean).
  GIVEN WITH THE SEED: the statements are not yours to turn. If you find one false, say at which input.
  Laid BY PROGRAM, IN A SANDBOX (cutbox-rows.mjs): the forced cells as the released guide's own fill.sh prints them over the translation 04b1fdb41b57b123… (all of the seat's roots in one cut). By AI agents, Wed Nov 11 2026. No macro, syntax, notation, axiom, sorry.
-/
import Derived.Test.Qxb6623390aChecked
import GoSem.Claim
import GoSem.ClaimJoined
import GoSem.ClaimMapViews
import Derived.JoinedTies
import Derived.KernelRfl
namespace Go.Proofs.Qxb6623390a
/- THE CELL 'sum', in the pinned program and in every row, IS THE sha256 OF THE DUMP (.gsa) THAT Qxb6623390aProg.lean LOADS. Nothing in Lean hashes anything: it is a label: what it is worth is what the hold of that sum in a sandbox is worth. -/
noncomputable def Try.pinned : Pinned := { name := "qxb6623390a", sum := "04b1fdb41b57b1233ffc0d43bc43049b4509608d66a5e54fc3c72f233ad1982b", checked := Try.checked }
namespace Rows
def none {H : Type} : Left H := { results := [], args := [] }

/-- 'zzlaws_pkg_radio_b1.FnTransmitSlotScript': WHATEVER THE INPUT: true; the input reads as it did. -/
def fnTransmitSlotScriptSpec : ChangeSpec := { name := "fnTransmitSlotScript", fn := fun _ => fun
  | [d1, d2, d3, d4] => { results := [.lit (.bool true)], args := [d1, d2, d3, d4] }
  | _ => none }
def fnTransmitSlotScriptRow : OpenClaim := { program := "qxb6623390a", sum := "04b1fdb41b57b1233ffc0d43bc43049b4509608d66a5e54fc3c72f233ad1982b", func := "example.com/sleepy-quorum/sleepy-quorum/zzlaws_pkg_radio_b1.FnTransmitSlotScript", spec := "fnTransmitSlotScript", apart := false }
def FnTransmitSlotScriptSaid : Prop := fnTransmitSlotScriptRow.holds Try.pinned (OpenSpec.ofChange fnTransmitSlotScriptSpec)

/-- ITS FALSE NEIGHBOUR: 'it returns false'. Refute it at one input. -/
def fnTransmitSlotScriptWrong : ChangeSpec := { name := "fnTransmitSlotScript", fn := fun _ => fun
  | [d1, d2, d3, d4] => { results := [.lit (.bool false)], args := [d1, d2, d3, d4] }
  | _ => none }
def FnTransmitSlotScriptWrongFalsely : Prop := fnTransmitSlotScriptRow.holds Try.pinned (OpenSpec.ofChange fnTransmitSlotScriptWrong)

end Rows
end Go.Proofs.Qxb6623390a
