/-
  DERIVED. GIVEN WITH THE SEED: THE CARDS: each row of Qxb6601124aDoorRows.lean that lists a variable, with what it lists TIED to the program's text (the seventh form; the later family's looks); each row that meets fmt, with fmt's text TOLD by the authors' own Lean function (tested against real Go, not proved from fmt's source: count such statements apart). THE CARD IS WHAT COUNTS. Prove the row's statement (the work); the ties are given (Qxb6601124aDoorTie.lean); close each card by the builder's one call (the guide's Derived/Test/ToyasCard.lean, 'card_holds'). Laid BY PROGRAM, IN A SANDBOX (cutbox-door.mjs). By AI agents, Wed Nov 11 2026. No macro, syntax, notation, axiom, sorry.
-/
import Derived.Test.Qxb6601124aDoorRows
import GoSem.ClaimSeven
namespace Go.Proofs.Qxb6601124aDoor
namespace Rows

/-- THE TIED CARD OF 'zzlaws_wheel_b1.FnCompareBuildsMatchesModel'. -/
def fnCompareBuildsMatchesModelCard : Claim7 := { stood := { row := fnCompareBuildsMatchesModelRow, standIns := [], harness := (true, "1af2b2547cdc8be5ec95523daefe0f5263d26d89d24c4144760643ef26afe234"), looks := true }, kinds := [], alts := [], laidByText := true, laidKinds := [.data, .pinned], laidTests := true, laidLooks := .later }
def FnCompareBuildsMatchesModelCardSaid : Prop := Claim7.holds Tryd.pinned (.plain (OpenSpec.ofChange fnCompareBuildsMatchesModelSpec)) fnCompareBuildsMatchesModelCard

/-- THE TIED CARD OF 'zzlaws_wheel_b1.FnCompareBuildsIsTotalPreorder'. -/
def fnCompareBuildsIsTotalPreorderCard : Claim7 := { stood := { row := fnCompareBuildsIsTotalPreorderRow, standIns := [], harness := (true, "1af2b2547cdc8be5ec95523daefe0f5263d26d89d24c4144760643ef26afe234"), looks := true }, kinds := [], alts := [], laidByText := true, laidKinds := [.data, .pinned], laidTests := true, laidLooks := .later }
def FnCompareBuildsIsTotalPreorderCardSaid : Prop := Claim7.holds Tryd.pinned (.plain (OpenSpec.ofChange fnCompareBuildsIsTotalPreorderSpec)) fnCompareBuildsIsTotalPreorderCard

/-- THE TIED CARD OF 'zzlaws_wheel_b1.FnBestIsFirstLeastByRankThenHighestBuild'. -/
def fnBestIsFirstLeastByRankThenHighestBuildCard : Claim7 := { stood := { row := fnBestIsFirstLeastByRankThenHighestBuildRow, standIns := [], harness := (true, "1af2b2547cdc8be5ec95523daefe0f5263d26d89d24c4144760643ef26afe234"), looks := true }, kinds := [], alts := [], laidByText := true, laidKinds := [.data, .pinned], laidTests := true, laidLooks := .later }
def FnBestIsFirstLeastByRankThenHighestBuildCardSaid : Prop := Claim7.holds Tryd.pinned (.plain (OpenSpec.ofChange fnBestIsFirstLeastByRankThenHighestBuildSpec)) fnBestIsFirstLeastByRankThenHighestBuildCard

/-- THE TIED CARD OF 'zzlaws_wheel_b1.FnBestKeepsWinnerWhenLoserDropped'. -/
def fnBestKeepsWinnerWhenLoserDroppedCard : Claim7 := { stood := { row := fnBestKeepsWinnerWhenLoserDroppedRow, standIns := [], harness := (true, "1af2b2547cdc8be5ec95523daefe0f5263d26d89d24c4144760643ef26afe234"), looks := true }, kinds := [], alts := [], laidByText := true, laidKinds := [.data, .pinned], laidTests := true, laidLooks := .later }
def FnBestKeepsWinnerWhenLoserDroppedCardSaid : Prop := Claim7.holds Tryd.pinned (.plain (OpenSpec.ofChange fnBestKeepsWinnerWhenLoserDroppedSpec)) fnBestKeepsWinnerWhenLoserDroppedCard

/-- THE TIED CARD OF 'zzlaws_wheel_b1.FnMacPlatformsMatchClosedForm'. -/
def fnMacPlatformsMatchClosedFormCard : Claim7 := { stood := { row := fnMacPlatformsMatchClosedFormRow, standIns := [], harness := (true, "1af2b2547cdc8be5ec95523daefe0f5263d26d89d24c4144760643ef26afe234"), looks := true }, kinds := [], alts := [], laidByText := true, laidKinds := [.data, .data, .data, .sentinel, .sentinel], laidTests := true, laidLooks := .later }
def FnMacPlatformsMatchClosedFormCardSaid : Prop := Claim7.holds Tryd.pinned (.plain (OpenSpec.ofChange fnMacPlatformsMatchClosedFormSpec)) fnMacPlatformsMatchClosedFormCard

/-- THE TIED CARD OF 'zzlaws_wheel_b1.FnMacPlatformsNewerVersionPrependsItsOwn'. -/
def fnMacPlatformsNewerVersionPrependsItsOwnCard : Claim7 := { stood := { row := fnMacPlatformsNewerVersionPrependsItsOwnRow, standIns := [], harness := (true, "1af2b2547cdc8be5ec95523daefe0f5263d26d89d24c4144760643ef26afe234"), looks := true }, kinds := [], alts := [], laidByText := true, laidKinds := [.data, .data, .data, .sentinel, .sentinel], laidTests := true, laidLooks := .later }
def FnMacPlatformsNewerVersionPrependsItsOwnCardSaid : Prop := Claim7.holds Tryd.pinned (.plain (OpenSpec.ofChange fnMacPlatformsNewerVersionPrependsItsOwnSpec)) fnMacPlatformsNewerVersionPrependsItsOwnCard
end Rows
end Go.Proofs.Qxb6601124aDoor
