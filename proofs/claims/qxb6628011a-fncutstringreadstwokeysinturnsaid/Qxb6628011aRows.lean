/-
  No cell of these rows narrows 'for every input' (looked for: loops, veiled, ifaces, maps, wideKeys, modest, calm, conditions, laid).
  DERIVED. THE GIVEN ROWS OF THIS SEAT. 2 by the template 'for every input the law returns true; each argument reads behind the call as it read before'; 0 by the template 'total and deterministic' (their statements: Qxb6628011aTotals.lean).
  GIVEN WITH THE SEED: the statements are not yours to turn. If you find one false, say at which input.
  Laid BY PROGRAM, IN A SANDBOX (cutbox-rows.mjs): the forced cells as the released guide's own fill.sh prints them over the translation b7eac866ef53a9bc… (all of the seat's roots in one cut). By AI agents, Wed Nov 11 2026. No macro, syntax, notation, axiom, sorry.
-/
import Derived.Test.Qxb6628011aChecked
import GoSem.Claim
import GoSem.ClaimJoined
import GoSem.ClaimMapViews
import Derived.JoinedTies
import Derived.KernelRfl
namespace Go.Proofs.Qxb6628011a
/- THE CELL 'sum', in the pinned program and in every row, IS THE sha256 OF THE DUMP (.gsa) THAT Qxb6628011aProg.lean LOADS. Nothing in Lean hashes anything: it is a label: what it is worth is what the hold of that sum in a sandbox is worth. -/
noncomputable def Try.pinned : Pinned := { name := "qxb6628011a", sum := "b7eac866ef53a9bcf478f3db34630319b5293ab80633b39b4c0a9baded6fba1c", checked := Try.checked }
namespace Rows
def none {H : Type} : Left H := { results := [], args := [] }

/-- 'zzlaws_internal_sortkey_b1.FnCutStringMatchesFirstOpenZeroModel': WHATEVER THE INPUT: true; the input reads as it did. -/
def fnCutStringMatchesFirstOpenZeroModelSpec : ChangeSpec := { name := "fnCutStringMatchesFirstOpenZeroModel", fn := fun _ => fun
  | [d] => { results := [.lit (.bool true)], args := [d] }
  | _ => none }
def fnCutStringMatchesFirstOpenZeroModelRow : OpenClaim := { program := "qxb6628011a", sum := "b7eac866ef53a9bcf478f3db34630319b5293ab80633b39b4c0a9baded6fba1c", func := "example.com/paxgrove/paxgrove/zzlaws_internal_sortkey_b1.FnCutStringMatchesFirstOpenZeroModel", spec := "fnCutStringMatchesFirstOpenZeroModel", apart := false }
def FnCutStringMatchesFirstOpenZeroModelSaid : Prop := fnCutStringMatchesFirstOpenZeroModelRow.holds Try.pinned (OpenSpec.ofChange fnCutStringMatchesFirstOpenZeroModelSpec)

/-- ITS FALSE NEIGHBOUR: 'it returns false'. Refute it at one input. -/
def fnCutStringMatchesFirstOpenZeroModelWrong : ChangeSpec := { name := "fnCutStringMatchesFirstOpenZeroModel", fn := fun _ => fun
  | [d] => { results := [.lit (.bool false)], args := [d] }
  | _ => none }
def FnCutStringMatchesFirstOpenZeroModelWrongFalsely : Prop := fnCutStringMatchesFirstOpenZeroModelRow.holds Try.pinned (OpenSpec.ofChange fnCutStringMatchesFirstOpenZeroModelWrong)

/-- 'zzlaws_internal_sortkey_b1.FnCutStringReadsTwoKeysInTurn': WHATEVER THE INPUT: true; the input reads as it did. -/
def fnCutStringReadsTwoKeysInTurnSpec : ChangeSpec := { name := "fnCutStringReadsTwoKeysInTurn", fn := fun _ => fun
  | [d1, d2, d3] => { results := [.lit (.bool true)], args := [d1, d2, d3] }
  | _ => none }
def fnCutStringReadsTwoKeysInTurnRow : OpenClaim := { program := "qxb6628011a", sum := "b7eac866ef53a9bcf478f3db34630319b5293ab80633b39b4c0a9baded6fba1c", func := "example.com/paxgrove/paxgrove/zzlaws_internal_sortkey_b1.FnCutStringReadsTwoKeysInTurn", spec := "fnCutStringReadsTwoKeysInTurn", apart := false }
def FnCutStringReadsTwoKeysInTurnSaid : Prop := fnCutStringReadsTwoKeysInTurnRow.holds Try.pinned (OpenSpec.ofChange fnCutStringReadsTwoKeysInTurnSpec)

/-- ITS FALSE NEIGHBOUR: 'it returns false'. Refute it at one input. -/
def fnCutStringReadsTwoKeysInTurnWrong : ChangeSpec := { name := "fnCutStringReadsTwoKeysInTurn", fn := fun _ => fun
  | [d1, d2, d3] => { results := [.lit (.bool false)], args := [d1, d2, d3] }
  | _ => none }
def FnCutStringReadsTwoKeysInTurnWrongFalsely : Prop := fnCutStringReadsTwoKeysInTurnRow.holds Try.pinned (OpenSpec.ofChange fnCutStringReadsTwoKeysInTurnWrong)

end Rows
end Go.Proofs.Qxb6628011a
