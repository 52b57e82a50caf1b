/-
  No cell of these rows narrows 'for every input' (looked for: loops, veiled, ifaces, maps, wideKeys, modest, calm, conditions, laid).
  DERIVED. THE GIVEN ROWS OF THIS SEAT. 2 by the template 'for every input the law returns true; each argument reads behind the call as it read before'; 0 by the template 'total and deterministic' (their statements: Qxb6627916aTotals.lean).
  GIVEN WITH THE SEED: the statements are not yours to turn. If you find one false, say at which input.
  Laid BY PROGRAM, IN A SANDBOX (cutbox-rows.mjs): the forced cells as the released guide's own fill.sh prints them over the translation 0ec011c958ec4329… (all of the seat's roots in one cut). By AI agents, Wed Nov 11 2026. No macro, syntax, notation, axiom, sorry.
-/
import Derived.Test.Qxb6627916aChecked
import GoSem.Claim
import GoSem.ClaimJoined
import GoSem.ClaimMapViews
import Derived.JoinedTies
import Derived.KernelRfl
namespace Go.Proofs.Qxb6627916a
/- THE CELL 'sum', in the pinned program and in every row, IS THE sha256 OF THE DUMP (.gsa) THAT Qxb6627916aProg.lean LOADS. Nothing in Lean hashes anything: it is a label: what it is worth is what the hold of that sum in a sandbox is worth. -/
noncomputable def Try.pinned : Pinned := { name := "qxb6627916a", sum := "0ec011c958ec43296e8cf900e05f3d67b38d550daee03a4533076c8cc10e4b33", checked := Try.checked }
namespace Rows
def none {H : Type} : Left H := { results := [], args := [] }

/-- 'zzlaws_root_b1.FnBindingsIsInputSorted': WHATEVER THE INPUT: true; the input reads as it did. -/
def fnBindingsIsInputSortedSpec : ChangeSpec := { name := "fnBindingsIsInputSorted", fn := fun _ => fun
  | [d] => { results := [.lit (.bool true)], args := [d] }
  | _ => none }
def fnBindingsIsInputSortedRow : OpenClaim := { program := "qxb6627916a", sum := "0ec011c958ec43296e8cf900e05f3d67b38d550daee03a4533076c8cc10e4b33", func := "example.com/wewenang/wewenang/zzlaws_root_b1.FnBindingsIsInputSorted", spec := "fnBindingsIsInputSorted", inPlace := ["(*sync.RWMutex).RLock", "internal/race.Read", "internal/race.Disable", "sync/atomic.AddInt32", "sync.runtime_SemacquireRWMutexR", "internal/race.Enable", "internal/race.Acquire", "(*sync.RWMutex).RUnlock", "internal/race.ReleaseMerge", "(*sync.RWMutex).rUnlockSlow", "sync.fatal", "sync.runtime_Semrelease"], unfollowed := true, recurses := true, apart := false }
def FnBindingsIsInputSortedSaid : Prop := fnBindingsIsInputSortedRow.holds Try.pinned (OpenSpec.ofChange fnBindingsIsInputSortedSpec)

/-- ITS FALSE NEIGHBOUR: 'it returns false'. Refute it at one input. -/
def fnBindingsIsInputSortedWrong : ChangeSpec := { name := "fnBindingsIsInputSorted", fn := fun _ => fun
  | [d] => { results := [.lit (.bool false)], args := [d] }
  | _ => none }
def FnBindingsIsInputSortedWrongFalsely : Prop := fnBindingsIsInputSortedRow.holds Try.pinned (OpenSpec.ofChange fnBindingsIsInputSortedWrong)

/-- 'zzlaws_root_b1.FnBindingsAddOneInsertsInPlace': WHATEVER THE INPUT: true; the input reads as it did. -/
def fnBindingsAddOneInsertsInPlaceSpec : ChangeSpec := { name := "fnBindingsAddOneInsertsInPlace", fn := fun _ => fun
  | [d1, d2] => { results := [.lit (.bool true)], args := [d1, d2] }
  | _ => none }
def fnBindingsAddOneInsertsInPlaceRow : OpenClaim := { program := "qxb6627916a", sum := "0ec011c958ec43296e8cf900e05f3d67b38d550daee03a4533076c8cc10e4b33", func := "example.com/wewenang/wewenang/zzlaws_root_b1.FnBindingsAddOneInsertsInPlace", spec := "fnBindingsAddOneInsertsInPlace", inPlace := ["(*sync.RWMutex).RLock", "internal/race.Read", "internal/race.Disable", "sync/atomic.AddInt32", "sync.runtime_SemacquireRWMutexR", "internal/race.Enable", "internal/race.Acquire", "(*sync.RWMutex).RUnlock", "internal/race.ReleaseMerge", "(*sync.RWMutex).rUnlockSlow", "sync.fatal", "sync.runtime_Semrelease"], unfollowed := true, recurses := true, apart := false }
def FnBindingsAddOneInsertsInPlaceSaid : Prop := fnBindingsAddOneInsertsInPlaceRow.holds Try.pinned (OpenSpec.ofChange fnBindingsAddOneInsertsInPlaceSpec)

/-- ITS FALSE NEIGHBOUR: 'it returns false'. Refute it at one input. -/
def fnBindingsAddOneInsertsInPlaceWrong : ChangeSpec := { name := "fnBindingsAddOneInsertsInPlace", fn := fun _ => fun
  | [d1, d2] => { results := [.lit (.bool false)], args := [d1, d2] }
  | _ => none }
def FnBindingsAddOneInsertsInPlaceWrongFalsely : Prop := fnBindingsAddOneInsertsInPlaceRow.holds Try.pinned (OpenSpec.ofChange fnBindingsAddOneInsertsInPlaceWrong)

end Rows
end Go.Proofs.Qxb6627916a
