/-
  DERIVED. GIVEN WITH THE SEED: THE CARDS: each row of Qxb6604302aDoorRows.lean that lists a variable, with what it lists TIED to the program's text (the seventh form; the later family's looks); each row that meets fmt, with fmt's text TOLD by the authors' own Lean function (tested against real Go, not proved from fmt's source: count such statements apart). THE CARD IS WHAT COUNTS. Prove the row's statement (the work); the ties are given (Qxb6604302aDoorTie.lean); close each card by the builder's one call (the guide's Derived/Test/ToyasCard.lean, 'card_holds'). Laid BY PROGRAM, IN A SANDBOX (cutbox-door.mjs). By AI agents, Wed Nov 11 2026. No macro, syntax, notation, axiom, sorry.
-/
import Derived.Test.Qxb6604302aDoorRows
import GoSem.ClaimSeven
namespace Go.Proofs.Qxb6604302aDoor
namespace Rows

/-- THE TIED CARD OF 'zzlaws_internal_pathrule_b1.FnWithoutParametersMatchesScan'. -/
def fnWithoutParametersMatchesScanCard : Claim7 := { stood := { row := fnWithoutParametersMatchesScanRow, standIns := [], harness := (true, "810ca01e1f727140b6746485b8e19849e11463ead4c84238256db9a0e7ef6f26"), looks := false }, kinds := [], alts := [], laidByText := true, laidKinds := [.data, .pinned], laidTests := true, laidLooks := .later }
def FnWithoutParametersMatchesScanCardSaid : Prop := Claim7.holds Tryd.pinned (.plain (OpenSpec.ofChange fnWithoutParametersMatchesScanSpec)) fnWithoutParametersMatchesScanCard

/-- THE TIED CARD OF 'zzlaws_internal_pathrule_b1.FnWithoutParametersIdempotentKeepsSlashes'. -/
def fnWithoutParametersIdempotentKeepsSlashesCard : Claim7 := { stood := { row := fnWithoutParametersIdempotentKeepsSlashesRow, standIns := [], harness := (true, "810ca01e1f727140b6746485b8e19849e11463ead4c84238256db9a0e7ef6f26"), looks := false }, kinds := [], alts := [], laidByText := true, laidKinds := [.data, .pinned], laidTests := true, laidLooks := .later }
def FnWithoutParametersIdempotentKeepsSlashesCardSaid : Prop := Claim7.holds Tryd.pinned (.plain (OpenSpec.ofChange fnWithoutParametersIdempotentKeepsSlashesSpec)) fnWithoutParametersIdempotentKeepsSlashesCard

/-- THE TIED CARD OF 'zzlaws_internal_pathrule_b1.FnPlainMatchesModel'. -/
def fnPlainMatchesModelCard : Claim7 := { stood := { row := fnPlainMatchesModelRow, standIns := [], harness := (true, "810ca01e1f727140b6746485b8e19849e11463ead4c84238256db9a0e7ef6f26"), looks := false }, kinds := [], alts := [], laidByText := true, laidKinds := [.data, .pinned], laidTests := true, laidLooks := .later }
def FnPlainMatchesModelCardSaid : Prop := Claim7.holds Tryd.pinned (.plain (OpenSpec.ofChange fnPlainMatchesModelSpec)) fnPlainMatchesModelCard
end Rows
end Go.Proofs.Qxb6604302aDoor
