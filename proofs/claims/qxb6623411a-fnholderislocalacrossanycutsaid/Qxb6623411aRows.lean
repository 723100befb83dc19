/-
  No cell of these rows narrows 'for every input' (looked for: loops, veiled, ifaces, maps, wideKeys, modest, calm, conditions, laid).
  DERIVED. THE GIVEN ROWS OF THIS SEAT. 1 by the template 'for every input the law returns true; each argument reads behind the call as it read before'; 0 by the template 'total and deterministic' (their statements: Qxb6623411aTotals.lean).
  GIVEN WITH THE SEED: the statements are not yours to turn. If you find one false, say at which input.
  Laid BY PROGRAM, IN A SANDBOX (cutbox-rows.mjs): the forced cells as the released guide's own fill.sh prints them over the translation 8c54118c5c4a7ff3… (all of the seat's roots in one cut). By AI agents, Wed Nov 11 2026. No macro, syntax, notation, axiom, sorry.
-/
import Derived.Test.Qxb6623411aChecked
import GoSem.Claim
import GoSem.ClaimJoined
import GoSem.ClaimMapViews
import Derived.JoinedTies
import Derived.KernelRfl
namespace Go.Proofs.Qxb6623411a
/- THE CELL 'sum', in the pinned program and in every row, IS THE sha256 OF THE DUMP (.gsa) THAT Qxb6623411aProg.lean LOADS. Nothing in Lean hashes anything: it is a label: what it is worth is what the hold of that sum in a sandbox is worth. -/
noncomputable def Try.pinned : Pinned := { name := "qxb6623411a", sum := "8c54118c5c4a7ff31a74dc239533633652e4840a0c40190238b1a3ee570f854b", checked := Try.checked }
namespace Rows
def none {H : Type} : Left H := { results := [], args := [] }

/-- 'zzlaws_pkg_realm_b1.FnHolderIsLocalAcrossAnyCut': WHATEVER THE INPUT: true; the input reads as it did. -/
def fnHolderIsLocalAcrossAnyCutSpec : ChangeSpec := { name := "fnHolderIsLocalAcrossAnyCut", fn := fun _ => fun
  | [d1, d2, d3, d4, d5, d6, d7] => { results := [.lit (.bool true)], args := [d1, d2, d3, d4, d5, d6, d7] }
  | _ => none }
def fnHolderIsLocalAcrossAnyCutRow : OpenClaim := { program := "qxb6623411a", sum := "8c54118c5c4a7ff31a74dc239533633652e4840a0c40190238b1a3ee570f854b", func := "example.com/whistlepost/whistlepost/zzlaws_pkg_realm_b1.FnHolderIsLocalAcrossAnyCut", spec := "fnHolderIsLocalAcrossAnyCut", apart := false }
def FnHolderIsLocalAcrossAnyCutSaid : Prop := fnHolderIsLocalAcrossAnyCutRow.holds Try.pinned (OpenSpec.ofChange fnHolderIsLocalAcrossAnyCutSpec)

/-- ITS FALSE NEIGHBOUR: 'it returns false'. Refute it at one input. -/
def fnHolderIsLocalAcrossAnyCutWrong : ChangeSpec := { name := "fnHolderIsLocalAcrossAnyCut", fn := fun _ => fun
  | [d1, d2, d3, d4, d5, d6, d7] => { results := [.lit (.bool false)], args := [d1, d2, d3, d4, d5, d6, d7] }
  | _ => none }
def FnHolderIsLocalAcrossAnyCutWrongFalsely : Prop := fnHolderIsLocalAcrossAnyCutRow.holds Try.pinned (OpenSpec.ofChange fnHolderIsLocalAcrossAnyCutWrong)

end Rows
end Go.Proofs.Qxb6623411a
