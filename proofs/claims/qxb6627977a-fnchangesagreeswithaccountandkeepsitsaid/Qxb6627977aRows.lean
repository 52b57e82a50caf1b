/-
  No cell of these rows narrows 'for every input' (looked for: loops, veiled, ifaces, maps, wideKeys, modest, calm, conditions, laid).
  DERIVED. THE GIVEN ROWS OF THIS SEAT. 2 by the template 'for every input the law returns true; each argument reads behind the call as it read before'; 0 by the template 'total and deterministic' (their statements: Qxb6627977aTotals.lean).
  GIVEN WITH THE SEED: the statements are not yours to turn. If you find one false, say at which input.
  Laid BY PROGRAM, IN A SANDBOX (cutbox-rows.mjs): the forced cells as the released guide's own fill.sh prints them over the translation de72570290a8de34… (all of the seat's roots in one cut). By AI agents, Wed Nov 11 2026. No macro, syntax, notation, axiom, sorry.
-/
import Derived.Test.Qxb6627977aChecked
import GoSem.Claim
import GoSem.ClaimJoined
import GoSem.ClaimMapViews
import Derived.JoinedTies
import Derived.KernelRfl
namespace Go.Proofs.Qxb6627977a
/- THE CELL 'sum', in the pinned program and in every row, IS THE sha256 OF THE DUMP (.gsa) THAT Qxb6627977aProg.lean LOADS. Nothing in Lean hashes anything: it is a label: what it is worth is what the hold of that sum in a sandbox is worth. -/
noncomputable def Try.pinned : Pinned := { name := "qxb6627977a", sum := "de72570290a8de34f0d09a80f1f91314d8ac27c164de4a1515f27878f7104891", checked := Try.checked }
namespace Rows
def none {H : Type} : Left H := { results := [], args := [] }

/-- 'zzlaws_internal_ledger_b1.FnChangesReportsThenForgets': WHATEVER THE INPUT: true; the input reads as it did. -/
def fnChangesReportsThenForgetsSpec : ChangeSpec := { name := "fnChangesReportsThenForgets", fn := fun _ => fun
  | [d1, d2, d3] => { results := [.lit (.bool true)], args := [d1, d2, d3] }
  | _ => none }
def fnChangesReportsThenForgetsRow : OpenClaim := { program := "qxb6627977a", sum := "de72570290a8de34f0d09a80f1f91314d8ac27c164de4a1515f27878f7104891", func := "example.com/hearsay/hearsay/zzlaws_internal_ledger_b1.FnChangesReportsThenForgets", spec := "fnChangesReportsThenForgets", plainKeys := false, apart := false }
def FnChangesReportsThenForgetsSaid : Prop := fnChangesReportsThenForgetsRow.holds Try.pinned (OpenSpec.ofChange fnChangesReportsThenForgetsSpec)

/-- ITS FALSE NEIGHBOUR: 'it returns false'. Refute it at one input. -/
def fnChangesReportsThenForgetsWrong : ChangeSpec := { name := "fnChangesReportsThenForgets", fn := fun _ => fun
  | [d1, d2, d3] => { results := [.lit (.bool false)], args := [d1, d2, d3] }
  | _ => none }
def FnChangesReportsThenForgetsWrongFalsely : Prop := fnChangesReportsThenForgetsRow.holds Try.pinned (OpenSpec.ofChange fnChangesReportsThenForgetsWrong)

/-- 'zzlaws_internal_ledger_b1.FnChangesAgreesWithAccountAndKeepsIt': WHATEVER THE INPUT: true; the input reads as it did. -/
def fnChangesAgreesWithAccountAndKeepsItSpec : ChangeSpec := { name := "fnChangesAgreesWithAccountAndKeepsIt", fn := fun _ => fun
  | [d1, d2, d3, d4] => { results := [.lit (.bool true)], args := [d1, d2, d3, d4] }
  | _ => none }
def fnChangesAgreesWithAccountAndKeepsItRow : OpenClaim := { program := "qxb6627977a", sum := "de72570290a8de34f0d09a80f1f91314d8ac27c164de4a1515f27878f7104891", func := "example.com/hearsay/hearsay/zzlaws_internal_ledger_b1.FnChangesAgreesWithAccountAndKeepsIt", spec := "fnChangesAgreesWithAccountAndKeepsIt", plainKeys := false, apart := false }
def FnChangesAgreesWithAccountAndKeepsItSaid : Prop := fnChangesAgreesWithAccountAndKeepsItRow.holds Try.pinned (OpenSpec.ofChange fnChangesAgreesWithAccountAndKeepsItSpec)

/-- ITS FALSE NEIGHBOUR: 'it returns false'. Refute it at one input. -/
def fnChangesAgreesWithAccountAndKeepsItWrong : ChangeSpec := { name := "fnChangesAgreesWithAccountAndKeepsIt", fn := fun _ => fun
  | [d1, d2, d3, d4] => { results := [.lit (.bool false)], args := [d1, d2, d3, d4] }
  | _ => none }
def FnChangesAgreesWithAccountAndKeepsItWrongFalsely : Prop := fnChangesAgreesWithAccountAndKeepsItRow.holds Try.pinned (OpenSpec.ofChange fnChangesAgreesWithAccountAndKeepsItWrong)

end Rows
end Go.Proofs.Qxb6627977a
