/-
  NARROWER THAN 'FOR EVERY INPUT', by the rows' own cells (each row's printed sentence says how): FnWithoutParametersMatchesScan: laid · FnWithoutParametersIdempotentKeepsSlashes: laid · FnPlainMatchesModel: laid.
  DERIVED. THE GIVEN ROWS OF THIS SEAT. 3 by the template 'for every input the law returns true; each argument reads behind the call as it read before'; 0 by the template 'total and deterministic' (their statements: Qxb6604302aDoorTotals.lean).
  GIVEN WITH THE SEED: the statements are not yours to turn. If you find one false, say at which input.
  Laid BY PROGRAM, IN A SANDBOX (cutbox-rows.mjs): the forced cells as the released guide's own fill.sh prints them over the translation 9507ed74996ab915… (all of the seat's roots in one cut). By AI agents, Wed Nov 11 2026. No macro, syntax, notation, axiom, sorry.
-/
import Derived.Test.Qxb6604302aDoorChecked
import GoSem.PinnedTables
import GoSem.Claim
import GoSem.ClaimJoined
import GoSem.ClaimMapViews
import Derived.JoinedTies
import Derived.KernelRfl
namespace Go.Proofs.Qxb6604302aDoor
/- THE CELL 'sum', in the pinned program and in every row, IS THE sha256 OF THE DUMP (.gsa) THAT Qxb6604302aDoorProg.lean LOADS. Nothing in Lean hashes anything: it is a label: what it is worth is what the hold of that sum in a sandbox is worth. -/
noncomputable def Tryd.pinned : Pinned := { name := "qxb6604302adoor", sum := "9507ed74996ab9155fa2e2468ae91528def4c0d3f7c104f1335d4ba469f405ee", checked := Tryd.checked }
namespace Rows
def none {H : Type} : Left H := { results := [], args := [] }

/- WHAT THE LISTED PACKAGE-LEVEL VARIABLES READ AS WHEN THE CALL BEGINS. Each datum BY PROGRAM (the guide's laid-datum.mjs) off the statement by which the dump's own 'gosem.cut.vars' lays the variable. In a bare row this is a premise. The card (Qxb6604302aDoorCards.lean) ties it to the program's text. -/
def laid_unicode_utf8_acceptRanges {H : Type} : DataW H := .agg [.agg [.lit (.int .u8 128), .lit (.int .u8 191)], .agg [.lit (.int .u8 160), .lit (.int .u8 191)], .agg [.lit (.int .u8 128), .lit (.int .u8 159)], .agg [.lit (.int .u8 144), .lit (.int .u8 191)], .agg [.lit (.int .u8 128), .lit (.int .u8 143)], .agg [.lit (.int .u8 0), .lit (.int .u8 0)], .agg [.lit (.int .u8 0), .lit (.int .u8 0)], .agg [.lit (.int .u8 0), .lit (.int .u8 0)], .agg [.lit (.int .u8 0), .lit (.int .u8 0)], .agg [.lit (.int .u8 0), .lit (.int .u8 0)], .agg [.lit (.int .u8 0), .lit (.int .u8 0)], .agg [.lit (.int .u8 0), .lit (.int .u8 0)], .agg [.lit (.int .u8 0), .lit (.int .u8 0)], .agg [.lit (.int .u8 0), .lit (.int .u8 0)], .agg [.lit (.int .u8 0), .lit (.int .u8 0)], .agg [.lit (.int .u8 0), .lit (.int .u8 0)]]
/-- One of Go's own tables, pinned by name: the form's constant. -/
def laid_unicode_utf8_first : DataW Unit := Go.Pinned.utf8First

/-- 'zzlaws_internal_pathrule_b1.FnWithoutParametersMatchesScan': WHATEVER THE INPUT: true; the input reads as it did. -/
def fnWithoutParametersMatchesScanSpec : ChangeSpec := { name := "fnWithoutParametersMatchesScan", fn := fun _ => fun
  | [d] => { results := [.lit (.bool true)], args := [d] }
  | _ => none }
def fnWithoutParametersMatchesScanRow : OpenClaim := { program := "qxb6604302adoor", sum := "9507ed74996ab9155fa2e2468ae91528def4c0d3f7c104f1335d4ba469f405ee", func := "example.com/kerbline/kerbline/zzlaws_internal_pathrule_b1.FnWithoutParametersMatchesScan", spec := "fnWithoutParametersMatchesScan", inPlace := ["internal/bytealg.IndexByteString", "internal/bytealg.IndexString", "internal/bytealg.CountString", "internal/abi.NoEscape", "internal/bytealg.MakeNoZero"], named := ["internal/bytealg.MaxLen", "unicode/utf8.first", "unicode/utf8.acceptRanges"], apart := false, laid := [("unicode/utf8.acceptRanges", laid_unicode_utf8_acceptRanges), ("unicode/utf8.first", laid_unicode_utf8_first)] }
def FnWithoutParametersMatchesScanSaid : Prop := fnWithoutParametersMatchesScanRow.holds Tryd.pinned (OpenSpec.ofChange fnWithoutParametersMatchesScanSpec)

/-- ITS FALSE NEIGHBOUR: 'it returns false'. Refute it at one input. -/
def fnWithoutParametersMatchesScanWrong : ChangeSpec := { name := "fnWithoutParametersMatchesScan", fn := fun _ => fun
  | [d] => { results := [.lit (.bool false)], args := [d] }
  | _ => none }
def FnWithoutParametersMatchesScanWrongFalsely : Prop := fnWithoutParametersMatchesScanRow.holds Tryd.pinned (OpenSpec.ofChange fnWithoutParametersMatchesScanWrong)

/-- 'zzlaws_internal_pathrule_b1.FnWithoutParametersIdempotentKeepsSlashes': WHATEVER THE INPUT: true; the input reads as it did. -/
def fnWithoutParametersIdempotentKeepsSlashesSpec : ChangeSpec := { name := "fnWithoutParametersIdempotentKeepsSlashes", fn := fun _ => fun
  | [d] => { results := [.lit (.bool true)], args := [d] }
  | _ => none }
def fnWithoutParametersIdempotentKeepsSlashesRow : OpenClaim := { program := "qxb6604302adoor", sum := "9507ed74996ab9155fa2e2468ae91528def4c0d3f7c104f1335d4ba469f405ee", func := "example.com/kerbline/kerbline/zzlaws_internal_pathrule_b1.FnWithoutParametersIdempotentKeepsSlashes", spec := "fnWithoutParametersIdempotentKeepsSlashes", inPlace := ["internal/bytealg.IndexByteString", "internal/bytealg.IndexString", "internal/bytealg.CountString", "internal/abi.NoEscape", "internal/bytealg.MakeNoZero"], named := ["internal/bytealg.MaxLen", "unicode/utf8.first", "unicode/utf8.acceptRanges"], apart := false, laid := [("unicode/utf8.acceptRanges", laid_unicode_utf8_acceptRanges), ("unicode/utf8.first", laid_unicode_utf8_first)] }
def FnWithoutParametersIdempotentKeepsSlashesSaid : Prop := fnWithoutParametersIdempotentKeepsSlashesRow.holds Tryd.pinned (OpenSpec.ofChange fnWithoutParametersIdempotentKeepsSlashesSpec)

/-- ITS FALSE NEIGHBOUR: 'it returns false'. Refute it at one input. -/
def fnWithoutParametersIdempotentKeepsSlashesWrong : ChangeSpec := { name := "fnWithoutParametersIdempotentKeepsSlashes", fn := fun _ => fun
  | [d] => { results := [.lit (.bool false)], args := [d] }
  | _ => none }
def FnWithoutParametersIdempotentKeepsSlashesWrongFalsely : Prop := fnWithoutParametersIdempotentKeepsSlashesRow.holds Tryd.pinned (OpenSpec.ofChange fnWithoutParametersIdempotentKeepsSlashesWrong)

/-- 'zzlaws_internal_pathrule_b1.FnPlainMatchesModel': WHATEVER THE INPUT: true; the input reads as it did. -/
def fnPlainMatchesModelSpec : ChangeSpec := { name := "fnPlainMatchesModel", fn := fun _ => fun
  | [d1, d2, d3] => { results := [.lit (.bool true)], args := [d1, d2, d3] }
  | _ => none }
def fnPlainMatchesModelRow : OpenClaim := { program := "qxb6604302adoor", sum := "9507ed74996ab9155fa2e2468ae91528def4c0d3f7c104f1335d4ba469f405ee", func := "example.com/kerbline/kerbline/zzlaws_internal_pathrule_b1.FnPlainMatchesModel", spec := "fnPlainMatchesModel", inPlace := ["internal/bytealg.IndexByteString", "internal/bytealg.IndexString"], unfollowed := true, recurses := true, named := ["internal/bytealg.MaxLen", "unicode/utf8.first", "unicode/utf8.acceptRanges"], apart := false, laid := [("unicode/utf8.acceptRanges", laid_unicode_utf8_acceptRanges), ("unicode/utf8.first", laid_unicode_utf8_first)] }
def FnPlainMatchesModelSaid : Prop := fnPlainMatchesModelRow.holds Tryd.pinned (OpenSpec.ofChange fnPlainMatchesModelSpec)

/-- ITS FALSE NEIGHBOUR: 'it returns false'. Refute it at one input. -/
def fnPlainMatchesModelWrong : ChangeSpec := { name := "fnPlainMatchesModel", fn := fun _ => fun
  | [d1, d2, d3] => { results := [.lit (.bool false)], args := [d1, d2, d3] }
  | _ => none }
def FnPlainMatchesModelWrongFalsely : Prop := fnPlainMatchesModelRow.holds Tryd.pinned (OpenSpec.ofChange fnPlainMatchesModelWrong)

end Rows
end Go.Proofs.Qxb6604302aDoor
