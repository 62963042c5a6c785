/-
  NARROWER THAN 'FOR EVERY INPUT', by the rows' own cells (each row's printed sentence says how): FnDirUndoesJoin: laid · FnJoinRebuildsFromDirExactly: laid · FnDropLastComposes: laid · FnDropLastCountsRunes: laid.
  DERIVED. THE GIVEN ROWS OF THIS SEAT. 4 by the template 'for every input the law returns true; each argument reads behind the call as it read before'; 0 by the template 'total and deterministic' (their statements: Qxb6003379aDoorTotals.lean).
  GIVEN WITH THE SEED: the statements are not yours to turn. If you find one false, say at which input.
  Laid BY PROGRAM, IN A SANDBOX (cutbox-rows.mjs): the forced cells as the released guide's own fill.sh prints them over the translation 9f91ddc2e3051643… (all of the seat's roots in one cut). By AI agents, Wed Nov 11 2026. No macro, syntax, notation, axiom, sorry.
-/
import Derived.Test.Qxb6003379aDoorChecked
import GoSem.PinnedTables
import GoSem.Claim
import GoSem.ClaimJoined
import GoSem.ClaimMapViews
import Derived.JoinedTies
import Derived.KernelRfl
namespace Go.Proofs.Qxb6003379aDoor
/- THE CELL 'sum', in the pinned program and in every row, IS THE sha256 OF THE DUMP (.gsa) THAT Qxb6003379aDoorProg.lean LOADS. Nothing in Lean hashes anything: it is a label: what it is worth is what the hold of that sum in a sandbox is worth. -/
noncomputable def Tryd.pinned : Pinned := { name := "qxb6003379adoor", sum := "9f91ddc2e30516432e198bcc0a3f9040a298231af3f82ccc4f979a52ae76aae0", checked := Tryd.checked }
namespace Rows
def none {H : Type} : Left H := { results := [], args := [] }

/- WHAT THE LISTED PACKAGE-LEVEL VARIABLES READ AS WHEN THE CALL BEGINS. Each datum BY PROGRAM (the guide's laid-datum.mjs) off the statement by which the dump's own 'gosem.cut.vars' lays the variable. In a bare row this is a premise. The card (Qxb6003379aDoorCards.lean) ties it to the program's text. -/
def laid_unicode_utf8_acceptRanges {H : Type} : DataW H := .agg [.agg [.lit (.int .u8 128), .lit (.int .u8 191)], .agg [.lit (.int .u8 160), .lit (.int .u8 191)], .agg [.lit (.int .u8 128), .lit (.int .u8 159)], .agg [.lit (.int .u8 144), .lit (.int .u8 191)], .agg [.lit (.int .u8 128), .lit (.int .u8 143)], .agg [.lit (.int .u8 0), .lit (.int .u8 0)], .agg [.lit (.int .u8 0), .lit (.int .u8 0)], .agg [.lit (.int .u8 0), .lit (.int .u8 0)], .agg [.lit (.int .u8 0), .lit (.int .u8 0)], .agg [.lit (.int .u8 0), .lit (.int .u8 0)], .agg [.lit (.int .u8 0), .lit (.int .u8 0)], .agg [.lit (.int .u8 0), .lit (.int .u8 0)], .agg [.lit (.int .u8 0), .lit (.int .u8 0)], .agg [.lit (.int .u8 0), .lit (.int .u8 0)], .agg [.lit (.int .u8 0), .lit (.int .u8 0)], .agg [.lit (.int .u8 0), .lit (.int .u8 0)]]
/-- One of Go's own tables, pinned by name: the form's constant. -/
def laid_unicode_utf8_first : DataW Unit := Go.Pinned.utf8First

/-- 'zzlaws_internal_textfile_g1.FnDirUndoesJoin': WHATEVER THE INPUT: true; the input reads as it did. -/
def fnDirUndoesJoinSpec : ChangeSpec := { name := "fnDirUndoesJoin", fn := fun _ => fun
  | [d1, d2] => { results := [.lit (.bool true)], args := [d1, d2] }
  | _ => none }
def fnDirUndoesJoinRow : OpenClaim := { program := "qxb6003379adoor", sum := "9f91ddc2e30516432e198bcc0a3f9040a298231af3f82ccc4f979a52ae76aae0", func := "example.com/lineform/lineform/zzlaws_internal_textfile_g1.FnDirUndoesJoin", spec := "fnDirUndoesJoin", inPlace := ["internal/bytealg.IndexByteString", "internal/bytealg.IndexString"], named := ["unicode/utf8.first", "unicode/utf8.acceptRanges", "internal/bytealg.MaxLen"], apart := false, laid := [("unicode/utf8.acceptRanges", laid_unicode_utf8_acceptRanges), ("unicode/utf8.first", laid_unicode_utf8_first)] }
def FnDirUndoesJoinSaid : Prop := fnDirUndoesJoinRow.holds Tryd.pinned (OpenSpec.ofChange fnDirUndoesJoinSpec)

/-- ITS FALSE NEIGHBOUR: 'it returns false'. Refute it at one input. -/
def fnDirUndoesJoinWrong : ChangeSpec := { name := "fnDirUndoesJoin", fn := fun _ => fun
  | [d1, d2] => { results := [.lit (.bool false)], args := [d1, d2] }
  | _ => none }
def FnDirUndoesJoinWrongFalsely : Prop := fnDirUndoesJoinRow.holds Tryd.pinned (OpenSpec.ofChange fnDirUndoesJoinWrong)

/-- 'zzlaws_internal_textfile_g1.FnJoinRebuildsFromDirExactly': WHATEVER THE INPUT: true; the input reads as it did. -/
def fnJoinRebuildsFromDirExactlySpec : ChangeSpec := { name := "fnJoinRebuildsFromDirExactly", fn := fun _ => fun
  | [d] => { results := [.lit (.bool true)], args := [d] }
  | _ => none }
def fnJoinRebuildsFromDirExactlyRow : OpenClaim := { program := "qxb6003379adoor", sum := "9f91ddc2e30516432e198bcc0a3f9040a298231af3f82ccc4f979a52ae76aae0", func := "example.com/lineform/lineform/zzlaws_internal_textfile_g1.FnJoinRebuildsFromDirExactly", spec := "fnJoinRebuildsFromDirExactly", inPlace := ["internal/bytealg.IndexByteString", "internal/bytealg.IndexString"], named := ["unicode/utf8.first", "unicode/utf8.acceptRanges", "internal/bytealg.MaxLen"], apart := false, laid := [("unicode/utf8.acceptRanges", laid_unicode_utf8_acceptRanges), ("unicode/utf8.first", laid_unicode_utf8_first)] }
def FnJoinRebuildsFromDirExactlySaid : Prop := fnJoinRebuildsFromDirExactlyRow.holds Tryd.pinned (OpenSpec.ofChange fnJoinRebuildsFromDirExactlySpec)

/-- ITS FALSE NEIGHBOUR: 'it returns false'. Refute it at one input. -/
def fnJoinRebuildsFromDirExactlyWrong : ChangeSpec := { name := "fnJoinRebuildsFromDirExactly", fn := fun _ => fun
  | [d] => { results := [.lit (.bool false)], args := [d] }
  | _ => none }
def FnJoinRebuildsFromDirExactlyWrongFalsely : Prop := fnJoinRebuildsFromDirExactlyRow.holds Tryd.pinned (OpenSpec.ofChange fnJoinRebuildsFromDirExactlyWrong)

/-- 'zzlaws_internal_textfile_g1.FnDropLastComposes': WHATEVER THE INPUT: true; the input reads as it did. -/
def fnDropLastComposesSpec : ChangeSpec := { name := "fnDropLastComposes", fn := fun _ => fun
  | [d1, d2, d3] => { results := [.lit (.bool true)], args := [d1, d2, d3] }
  | _ => none }
def fnDropLastComposesRow : OpenClaim := { program := "qxb6003379adoor", sum := "9f91ddc2e30516432e198bcc0a3f9040a298231af3f82ccc4f979a52ae76aae0", func := "example.com/lineform/lineform/zzlaws_internal_textfile_g1.FnDropLastComposes", spec := "fnDropLastComposes", named := ["unicode/utf8.first", "unicode/utf8.acceptRanges"], apart := false, laid := [("unicode/utf8.acceptRanges", laid_unicode_utf8_acceptRanges), ("unicode/utf8.first", laid_unicode_utf8_first)] }
def FnDropLastComposesSaid : Prop := fnDropLastComposesRow.holds Tryd.pinned (OpenSpec.ofChange fnDropLastComposesSpec)

/-- ITS FALSE NEIGHBOUR: 'it returns false'. Refute it at one input. -/
def fnDropLastComposesWrong : ChangeSpec := { name := "fnDropLastComposes", fn := fun _ => fun
  | [d1, d2, d3] => { results := [.lit (.bool false)], args := [d1, d2, d3] }
  | _ => none }
def FnDropLastComposesWrongFalsely : Prop := fnDropLastComposesRow.holds Tryd.pinned (OpenSpec.ofChange fnDropLastComposesWrong)

/-- 'zzlaws_internal_textfile_g1.FnDropLastCountsRunes': WHATEVER THE INPUT: true; the input reads as it did. -/
def fnDropLastCountsRunesSpec : ChangeSpec := { name := "fnDropLastCountsRunes", fn := fun _ => fun
  | [d1, d2] => { results := [.lit (.bool true)], args := [d1, d2] }
  | _ => none }
def fnDropLastCountsRunesRow : OpenClaim := { program := "qxb6003379adoor", sum := "9f91ddc2e30516432e198bcc0a3f9040a298231af3f82ccc4f979a52ae76aae0", func := "example.com/lineform/lineform/zzlaws_internal_textfile_g1.FnDropLastCountsRunes", spec := "fnDropLastCountsRunes", named := ["unicode/utf8.first", "unicode/utf8.acceptRanges"], apart := false, laid := [("unicode/utf8.acceptRanges", laid_unicode_utf8_acceptRanges), ("unicode/utf8.first", laid_unicode_utf8_first)] }
def FnDropLastCountsRunesSaid : Prop := fnDropLastCountsRunesRow.holds Tryd.pinned (OpenSpec.ofChange fnDropLastCountsRunesSpec)

/-- ITS FALSE NEIGHBOUR: 'it returns false'. Refute it at one input. -/
def fnDropLastCountsRunesWrong : ChangeSpec := { name := "fnDropLastCountsRunes", fn := fun _ => fun
  | [d1, d2] => { results := [.lit (.bool false)], args := [d1, d2] }
  | _ => none }
def FnDropLastCountsRunesWrongFalsely : Prop := fnDropLastCountsRunesRow.holds Tryd.pinned (OpenSpec.ofChange fnDropLastCountsRunesWrong)

end Rows
end Go.Proofs.Qxb6003379aDoor
