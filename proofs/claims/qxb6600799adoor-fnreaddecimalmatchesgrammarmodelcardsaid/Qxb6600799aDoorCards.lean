/-
  DERIVED. GIVEN WITH THE SEED: THE CARDS: each row of Qxb6600799aDoorRows.lean that lists a variable, with what it lists TIED to the program's text (the seventh form; the later family's looks); each row that meets fmt, with fmt's text TOLD by the authors' own Lean function (tested against real Go, not proved from fmt's source: count such statements apart). THE CARD IS WHAT COUNTS. Prove the row's statement (the work); the ties are given (Qxb6600799aDoorTie.lean); close each card by the builder's one call (the guide's Derived/Test/ToyasCard.lean, 'card_holds'). Laid BY PROGRAM, IN A SANDBOX (cutbox-door.mjs). By AI agents, Wed Nov 11 2026. No macro, syntax, notation, axiom, sorry.
-/
import Derived.Test.Qxb6600799aDoorRows
import GoSem.ClaimSeven
namespace Go.Proofs.Qxb6600799aDoor
namespace Rows

/-- THE TIED CARD OF 'zzlaws_root_b1.FnReadDecimalMatchesGrammarModel'. -/
def fnReadDecimalMatchesGrammarModelCard : Claim7 := { stood := { row := fnReadDecimalMatchesGrammarModelRow, standIns := [], harness := (true, "e734ccf826275a54e1ac892a4598bd187d3aa349a76646899dd9affc0170bd95"), looks := false }, kinds := [], alts := [], laidByText := true, laidKinds := [.data, .pinned], laidTests := true, laidLooks := .later }
def FnReadDecimalMatchesGrammarModelCardSaid : Prop := Claim7.holds Tryd.pinned (.plain (OpenSpec.ofChange fnReadDecimalMatchesGrammarModelSpec)) fnReadDecimalMatchesGrammarModelCard

/-- THE TIED CARD OF 'zzlaws_root_b1.FnReadDecimalCanonicalTextReadsBack'. -/
def fnReadDecimalCanonicalTextReadsBackCard : Claim7 := { stood := { row := fnReadDecimalCanonicalTextReadsBackRow, standIns := [], harness := (true, "e734ccf826275a54e1ac892a4598bd187d3aa349a76646899dd9affc0170bd95"), looks := false }, kinds := [], alts := [], laidByText := true, laidKinds := [.data, .pinned], laidTests := true, laidLooks := .later }
def FnReadDecimalCanonicalTextReadsBackCardSaid : Prop := Claim7.holds Tryd.pinned (.plain (OpenSpec.ofChange fnReadDecimalCanonicalTextReadsBackSpec)) fnReadDecimalCanonicalTextReadsBackCard

/-- THE TIED CARD OF 'zzlaws_root_b1.FnReadDecimalMinusNegates'. -/
def fnReadDecimalMinusNegatesCard : Claim7 := { stood := { row := fnReadDecimalMinusNegatesRow, standIns := [], harness := (true, "e734ccf826275a54e1ac892a4598bd187d3aa349a76646899dd9affc0170bd95"), looks := false }, kinds := [], alts := [], laidByText := true, laidKinds := [.data, .pinned], laidTests := true, laidLooks := .later }
def FnReadDecimalMinusNegatesCardSaid : Prop := Claim7.holds Tryd.pinned (.plain (OpenSpec.ofChange fnReadDecimalMinusNegatesSpec)) fnReadDecimalMinusNegatesCard
end Rows
end Go.Proofs.Qxb6600799aDoor
