/-
  DERIVED. GIVEN WITH THE SEED: THE CARDS: each row of Qxb6003379aDoorRows.lean that lists a variable, with what it lists TIED to the program's text (the seventh form; the later family's looks); each row that meets fmt, with fmt's text TOLD by the authors' own Lean function (tested against real Go, not proved from fmt's source: count such statements apart). THE CARD IS WHAT COUNTS. Prove the row's statement (the work); the ties are given (Qxb6003379aDoorTie.lean); close each card by the builder's one call (the guide's Derived/Test/ToyasCard.lean, 'card_holds'). Laid BY PROGRAM, IN A SANDBOX (cutbox-door.mjs). By AI agents, Wed Nov 11 2026. No macro, syntax, notation, axiom, sorry.
-/
import Derived.Test.Qxb6003379aDoorRows
import GoSem.ClaimSeven
namespace Go.Proofs.Qxb6003379aDoor
namespace Rows

/-- THE TIED CARD OF 'zzlaws_internal_textfile_g1.FnDirUndoesJoin'. -/
def fnDirUndoesJoinCard : Claim7 := { stood := { row := fnDirUndoesJoinRow, standIns := [], harness := (true, "fa7d297f0486ec989ea28dfd9e9c07f14bfb0751cdd989146cfff306508fdc48"), looks := false }, kinds := [], alts := [], laidByText := true, laidKinds := [.data, .pinned], laidTests := true, laidLooks := .later }
def FnDirUndoesJoinCardSaid : Prop := Claim7.holds Tryd.pinned (.plain (OpenSpec.ofChange fnDirUndoesJoinSpec)) fnDirUndoesJoinCard

/-- THE TIED CARD OF 'zzlaws_internal_textfile_g1.FnJoinRebuildsFromDirExactly'. -/
def fnJoinRebuildsFromDirExactlyCard : Claim7 := { stood := { row := fnJoinRebuildsFromDirExactlyRow, standIns := [], harness := (true, "fa7d297f0486ec989ea28dfd9e9c07f14bfb0751cdd989146cfff306508fdc48"), looks := false }, kinds := [], alts := [], laidByText := true, laidKinds := [.data, .pinned], laidTests := true, laidLooks := .later }
def FnJoinRebuildsFromDirExactlyCardSaid : Prop := Claim7.holds Tryd.pinned (.plain (OpenSpec.ofChange fnJoinRebuildsFromDirExactlySpec)) fnJoinRebuildsFromDirExactlyCard

/-- THE TIED CARD OF 'zzlaws_internal_textfile_g1.FnDropLastComposes'. -/
def fnDropLastComposesCard : Claim7 := { stood := { row := fnDropLastComposesRow, standIns := [], harness := (true, "fa7d297f0486ec989ea28dfd9e9c07f14bfb0751cdd989146cfff306508fdc48"), looks := false }, kinds := [], alts := [], laidByText := true, laidKinds := [.data, .pinned], laidTests := true, laidLooks := .later }
def FnDropLastComposesCardSaid : Prop := Claim7.holds Tryd.pinned (.plain (OpenSpec.ofChange fnDropLastComposesSpec)) fnDropLastComposesCard

/-- THE TIED CARD OF 'zzlaws_internal_textfile_g1.FnDropLastCountsRunes'. -/
def fnDropLastCountsRunesCard : Claim7 := { stood := { row := fnDropLastCountsRunesRow, standIns := [], harness := (true, "fa7d297f0486ec989ea28dfd9e9c07f14bfb0751cdd989146cfff306508fdc48"), looks := false }, kinds := [], alts := [], laidByText := true, laidKinds := [.data, .pinned], laidTests := true, laidLooks := .later }
def FnDropLastCountsRunesCardSaid : Prop := Claim7.holds Tryd.pinned (.plain (OpenSpec.ofChange fnDropLastCountsRunesSpec)) fnDropLastCountsRunesCard
end Rows
end Go.Proofs.Qxb6003379aDoor
