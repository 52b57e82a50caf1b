/-
  DERIVED. GIVEN WITH THE SEED: THE CARDS: each row of Qxb6627951aDoorRows.lean that lists a variable, with what it lists TIED to the program's text (the seventh form; the later family's looks); each row that meets fmt, with fmt's text TOLD by the authors' own Lean function (tested against real Go, not proved from fmt's source: count such statements apart). THE CARD IS WHAT COUNTS. Prove the row's statement (the work); the ties are given (Qxb6627951aDoorTie.lean); close each card by the builder's one call (the guide's Derived/Test/ToyasCard.lean, 'card_holds'). Laid BY PROGRAM, IN A SANDBOX (cutbox-door.mjs). By AI agents, Wed Nov 11 2026. No macro, syntax, notation, axiom, sorry.
-/
import Derived.Test.Qxb6627951aDoorRows
import GoSem.ClaimSeven
namespace Go.Proofs.Qxb6627951aDoor
namespace Rows

/-- THE TIED CARD OF 'zzlaws_pkg_nas_b1.FnSNSSAIStringSplitsAtMapping'. -/
def fnSNSSAIStringSplitsAtMappingCard : Claim7 := { stood := { row := fnSNSSAIStringSplitsAtMappingRow, standIns := [], harness := (true, "9fb6dc1d9f2bca3dcc2c8a7ab29612aa9d3a7de2a8044b390ea5f6c3435f578f"), looks := false }, kinds := [], alts := [], laidByText := true, laidKinds := [.data, .data, .data], laidTests := true, laidLooks := .later }
def FnSNSSAIStringSplitsAtMappingCardSaid : Prop := Claim7.holds Tryd.pinned (.plain (OpenSpec.ofChange fnSNSSAIStringSplitsAtMappingSpec)) fnSNSSAIStringSplitsAtMappingCard

/-- THE TIED CARD OF 'zzlaws_pkg_nas_b1.FnSNSSAIStringIsInjectiveOnMeaning'. -/
def fnSNSSAIStringIsInjectiveOnMeaningCard : Claim7 := { stood := { row := fnSNSSAIStringIsInjectiveOnMeaningRow, standIns := [], harness := (true, "9fb6dc1d9f2bca3dcc2c8a7ab29612aa9d3a7de2a8044b390ea5f6c3435f578f"), looks := false }, kinds := [], alts := [], laidByText := true, laidKinds := [.data, .data, .data], laidTests := true, laidLooks := .later }
def FnSNSSAIStringIsInjectiveOnMeaningCardSaid : Prop := Claim7.holds Tryd.pinned (.plain (OpenSpec.ofChange fnSNSSAIStringIsInjectiveOnMeaningSpec)) fnSNSSAIStringIsInjectiveOnMeaningCard
end Rows
end Go.Proofs.Qxb6627951aDoor
