/-
  No cell of these rows narrows 'for every input' (looked for: loops, veiled, ifaces, maps, wideKeys, modest, calm, conditions, laid).
  DERIVED. THE GIVEN ROWS OF THIS SEAT. 6 by the template 'for every input the law returns true; each argument reads behind the call as it read before'; 0 by the template 'total and deterministic' (their statements: Qxb6619656aTotals.lean).
  GIVEN WITH THE SEED: the statements are not yours to turn. If you find one false, say at which input.
  Laid BY PROGRAM, IN A SANDBOX (cutbox-rows.mjs): the forced cells as the released guide's own fill.sh prints them over the translation bd04e249fa1176b8… (all of the seat's roots in one cut). By AI agents, Wed Nov 11 2026. No macro, syntax, notation, axiom, sorry.
-/
import Derived.Test.Qxb6619656aChecked
import GoSem.Claim
import GoSem.ClaimJoined
import GoSem.ClaimMapViews
import Derived.JoinedTies
import Derived.KernelRfl
namespace Go.Proofs.Qxb6619656a
/- THE CELL 'sum', in the pinned program and in every row, IS THE sha256 OF THE DUMP (.gsa) THAT Qxb6619656aProg.lean LOADS. Nothing in Lean hashes anything: it is a label: what it is worth is what the hold of that sum in a sandbox is worth. -/
noncomputable def Try.pinned : Pinned := { name := "qxb6619656a", sum := "bd04e249fa1176b8a73a3022dac809832a07f70047b80698672f657396f215a7", checked := Try.checked }
namespace Rows
def none {H : Type} : Left H := { results := [], args := [] }

/-- 'zzlaws_smtlib_b1.FnRequestTextContextSplitsAtAnyCut': WHATEVER THE INPUT: true; the input reads as it did. -/
def fnRequestTextContextSplitsAtAnyCutSpec : ChangeSpec := { name := "fnRequestTextContextSplitsAtAnyCut", fn := fun _ => fun
  | [d1, d2, d3, d4, d5, d6, d7, d8] => { results := [.lit (.bool true)], args := [d1, d2, d3, d4, d5, d6, d7, d8] }
  | _ => none }
def fnRequestTextContextSplitsAtAnyCutRow : OpenClaim := { program := "qxb6619656a", sum := "bd04e249fa1176b8a73a3022dac809832a07f70047b80698672f657396f215a7", func := "example.com/validity/validity/zzlaws_smtlib_b1.FnRequestTextContextSplitsAtAnyCut", spec := "fnRequestTextContextSplitsAtAnyCut", apart := false }
def FnRequestTextContextSplitsAtAnyCutSaid : Prop := fnRequestTextContextSplitsAtAnyCutRow.holds Try.pinned (OpenSpec.ofChange fnRequestTextContextSplitsAtAnyCutSpec)

/-- ITS FALSE NEIGHBOUR: 'it returns false'. Refute it at one input. -/
def fnRequestTextContextSplitsAtAnyCutWrong : ChangeSpec := { name := "fnRequestTextContextSplitsAtAnyCut", fn := fun _ => fun
  | [d1, d2, d3, d4, d5, d6, d7, d8] => { results := [.lit (.bool false)], args := [d1, d2, d3, d4, d5, d6, d7, d8] }
  | _ => none }
def FnRequestTextContextSplitsAtAnyCutWrongFalsely : Prop := fnRequestTextContextSplitsAtAnyCutRow.holds Try.pinned (OpenSpec.ofChange fnRequestTextContextSplitsAtAnyCutWrong)

/-- 'zzlaws_smtlib_b1.FnRequestTextPrincipalAddsItsValueNeverItsKind': WHATEVER THE INPUT: true; the input reads as it did. -/
def fnRequestTextPrincipalAddsItsValueNeverItsKindSpec : ChangeSpec := { name := "fnRequestTextPrincipalAddsItsValueNeverItsKind", fn := fun _ => fun
  | [d1, d2, d3, d4, d5, d6, d7] => { results := [.lit (.bool true)], args := [d1, d2, d3, d4, d5, d6, d7] }
  | _ => none }
def fnRequestTextPrincipalAddsItsValueNeverItsKindRow : OpenClaim := { program := "qxb6619656a", sum := "bd04e249fa1176b8a73a3022dac809832a07f70047b80698672f657396f215a7", func := "example.com/validity/validity/zzlaws_smtlib_b1.FnRequestTextPrincipalAddsItsValueNeverItsKind", spec := "fnRequestTextPrincipalAddsItsValueNeverItsKind", apart := false }
def FnRequestTextPrincipalAddsItsValueNeverItsKindSaid : Prop := fnRequestTextPrincipalAddsItsValueNeverItsKindRow.holds Try.pinned (OpenSpec.ofChange fnRequestTextPrincipalAddsItsValueNeverItsKindSpec)

/-- ITS FALSE NEIGHBOUR: 'it returns false'. Refute it at one input. -/
def fnRequestTextPrincipalAddsItsValueNeverItsKindWrong : ChangeSpec := { name := "fnRequestTextPrincipalAddsItsValueNeverItsKind", fn := fun _ => fun
  | [d1, d2, d3, d4, d5, d6, d7] => { results := [.lit (.bool false)], args := [d1, d2, d3, d4, d5, d6, d7] }
  | _ => none }
def FnRequestTextPrincipalAddsItsValueNeverItsKindWrongFalsely : Prop := fnRequestTextPrincipalAddsItsValueNeverItsKindRow.holds Try.pinned (OpenSpec.ofChange fnRequestTextPrincipalAddsItsValueNeverItsKindWrong)

/-- 'zzlaws_smtlib_b1.FnQuestionTextRefusedAddsItsClause': WHATEVER THE INPUT: true; the input reads as it did. -/
def fnQuestionTextRefusedAddsItsClauseSpec : ChangeSpec := { name := "fnQuestionTextRefusedAddsItsClause", fn := fun _ => fun
  | [d1, d2, d3, d4, d5, d6] => { results := [.lit (.bool true)], args := [d1, d2, d3, d4, d5, d6] }
  | _ => none }
def fnQuestionTextRefusedAddsItsClauseRow : OpenClaim := { program := "qxb6619656a", sum := "bd04e249fa1176b8a73a3022dac809832a07f70047b80698672f657396f215a7", func := "example.com/validity/validity/zzlaws_smtlib_b1.FnQuestionTextRefusedAddsItsClause", spec := "fnQuestionTextRefusedAddsItsClause", apart := false }
def FnQuestionTextRefusedAddsItsClauseSaid : Prop := fnQuestionTextRefusedAddsItsClauseRow.holds Try.pinned (OpenSpec.ofChange fnQuestionTextRefusedAddsItsClauseSpec)

/-- ITS FALSE NEIGHBOUR: 'it returns false'. Refute it at one input. -/
def fnQuestionTextRefusedAddsItsClauseWrong : ChangeSpec := { name := "fnQuestionTextRefusedAddsItsClause", fn := fun _ => fun
  | [d1, d2, d3, d4, d5, d6] => { results := [.lit (.bool false)], args := [d1, d2, d3, d4, d5, d6] }
  | _ => none }
def FnQuestionTextRefusedAddsItsClauseWrongFalsely : Prop := fnQuestionTextRefusedAddsItsClauseRow.holds Try.pinned (OpenSpec.ofChange fnQuestionTextRefusedAddsItsClauseWrong)

/-- 'zzlaws_smtlib_b1.FnQuestionTextSureMattersOnlyWhereAside': WHATEVER THE INPUT: true; the input reads as it did. -/
def fnQuestionTextSureMattersOnlyWhereAsideSpec : ChangeSpec := { name := "fnQuestionTextSureMattersOnlyWhereAside", fn := fun _ => fun
  | [d1, d2, d3] => { results := [.lit (.bool true)], args := [d1, d2, d3] }
  | _ => none }
def fnQuestionTextSureMattersOnlyWhereAsideRow : OpenClaim := { program := "qxb6619656a", sum := "bd04e249fa1176b8a73a3022dac809832a07f70047b80698672f657396f215a7", func := "example.com/validity/validity/zzlaws_smtlib_b1.FnQuestionTextSureMattersOnlyWhereAside", spec := "fnQuestionTextSureMattersOnlyWhereAside", apart := false }
def FnQuestionTextSureMattersOnlyWhereAsideSaid : Prop := fnQuestionTextSureMattersOnlyWhereAsideRow.holds Try.pinned (OpenSpec.ofChange fnQuestionTextSureMattersOnlyWhereAsideSpec)

/-- ITS FALSE NEIGHBOUR: 'it returns false'. Refute it at one input. -/
def fnQuestionTextSureMattersOnlyWhereAsideWrong : ChangeSpec := { name := "fnQuestionTextSureMattersOnlyWhereAside", fn := fun _ => fun
  | [d1, d2, d3] => { results := [.lit (.bool false)], args := [d1, d2, d3] }
  | _ => none }
def FnQuestionTextSureMattersOnlyWhereAsideWrongFalsely : Prop := fnQuestionTextSureMattersOnlyWhereAsideRow.holds Try.pinned (OpenSpec.ofChange fnQuestionTextSureMattersOnlyWhereAsideWrong)

/-- 'zzlaws_smtlib_b1.FnHasPrincipalsSplitsAtAnyCut': WHATEVER THE INPUT: true; the input reads as it did. -/
def fnHasPrincipalsSplitsAtAnyCutSpec : ChangeSpec := { name := "fnHasPrincipalsSplitsAtAnyCut", fn := fun _ => fun
  | [d1, d2] => { results := [.lit (.bool true)], args := [d1, d2] }
  | _ => none }
def fnHasPrincipalsSplitsAtAnyCutRow : OpenClaim := { program := "qxb6619656a", sum := "bd04e249fa1176b8a73a3022dac809832a07f70047b80698672f657396f215a7", func := "example.com/validity/validity/zzlaws_smtlib_b1.FnHasPrincipalsSplitsAtAnyCut", spec := "fnHasPrincipalsSplitsAtAnyCut", apart := false }
def FnHasPrincipalsSplitsAtAnyCutSaid : Prop := fnHasPrincipalsSplitsAtAnyCutRow.holds Try.pinned (OpenSpec.ofChange fnHasPrincipalsSplitsAtAnyCutSpec)

/-- ITS FALSE NEIGHBOUR: 'it returns false'. Refute it at one input. -/
def fnHasPrincipalsSplitsAtAnyCutWrong : ChangeSpec := { name := "fnHasPrincipalsSplitsAtAnyCut", fn := fun _ => fun
  | [d1, d2] => { results := [.lit (.bool false)], args := [d1, d2] }
  | _ => none }
def FnHasPrincipalsSplitsAtAnyCutWrongFalsely : Prop := fnHasPrincipalsSplitsAtAnyCutRow.holds Try.pinned (OpenSpec.ofChange fnHasPrincipalsSplitsAtAnyCutWrong)

/-- 'zzlaws_smtlib_b1.FnHasPrincipalsStatementPutInAnywhere': WHATEVER THE INPUT: true; the input reads as it did. -/
def fnHasPrincipalsStatementPutInAnywhereSpec : ChangeSpec := { name := "fnHasPrincipalsStatementPutInAnywhere", fn := fun _ => fun
  | [d1, d2, d3, d4] => { results := [.lit (.bool true)], args := [d1, d2, d3, d4] }
  | _ => none }
def fnHasPrincipalsStatementPutInAnywhereRow : OpenClaim := { program := "qxb6619656a", sum := "bd04e249fa1176b8a73a3022dac809832a07f70047b80698672f657396f215a7", func := "example.com/validity/validity/zzlaws_smtlib_b1.FnHasPrincipalsStatementPutInAnywhere", spec := "fnHasPrincipalsStatementPutInAnywhere", apart := false }
def FnHasPrincipalsStatementPutInAnywhereSaid : Prop := fnHasPrincipalsStatementPutInAnywhereRow.holds Try.pinned (OpenSpec.ofChange fnHasPrincipalsStatementPutInAnywhereSpec)

/-- ITS FALSE NEIGHBOUR: 'it returns false'. Refute it at one input. -/
def fnHasPrincipalsStatementPutInAnywhereWrong : ChangeSpec := { name := "fnHasPrincipalsStatementPutInAnywhere", fn := fun _ => fun
  | [d1, d2, d3, d4] => { results := [.lit (.bool false)], args := [d1, d2, d3, d4] }
  | _ => none }
def FnHasPrincipalsStatementPutInAnywhereWrongFalsely : Prop := fnHasPrincipalsStatementPutInAnywhereRow.holds Try.pinned (OpenSpec.ofChange fnHasPrincipalsStatementPutInAnywhereWrong)

end Rows
end Go.Proofs.Qxb6619656a
