/-
  NARROWER THAN 'FOR EVERY INPUT', by the rows' own cells (each row's printed sentence says how): FnReadDecimalMatchesGrammarModel: laid · FnReadDecimalCanonicalTextReadsBack: laid · FnReadDecimalMinusNegates: laid.
  DERIVED. THE GIVEN ROWS OF THIS SEAT. 3 by the template 'for every input the law returns true; each argument reads behind the call as it read before'; 0 by the template 'total and deterministic' (their statements: Qxb6600799aDoorTotals.lean).
  GIVEN WITH THE SEED: the statements are not yours to turn. If you find one false, say at which input.
  Laid BY PROGRAM, IN A SANDBOX (cutbox-rows.mjs): the forced cells as the released guide's own fill.sh prints them over the translation 404a9739d24799bd… (all of the seat's roots in one cut). By AI agents, Wed Nov 11 2026. No macro, syntax, notation, axiom, sorry.
-/
import Derived.Test.Qxb6600799aDoorChecked
import GoSem.PinnedTables
import GoSem.Claim
import GoSem.ClaimJoined
import GoSem.ClaimMapViews
import Derived.JoinedTies
import Derived.KernelRfl
namespace Go.Proofs.Qxb6600799aDoor
/- THE CELL 'sum', in the pinned program and in every row, IS THE sha256 OF THE DUMP (.gsa) THAT Qxb6600799aDoorProg.lean LOADS. Nothing in Lean hashes anything: it is a label: what it is worth is what the hold of that sum in a sandbox is worth. -/
noncomputable def Tryd.pinned : Pinned := { name := "qxb6600799adoor", sum := "404a9739d24799bd142a40888245bb067b5a78c29fc15022f71299b3d3bbbbe2", checked := Tryd.checked }
namespace Rows
def none {H : Type} : Left H := { results := [], args := [] }

/- WHAT THE LISTED PACKAGE-LEVEL VARIABLES READ AS WHEN THE CALL BEGINS. Each datum BY PROGRAM (the guide's laid-datum.mjs) off the statement by which the dump's own 'gosem.cut.vars' lays the variable. In a bare row this is a premise. The card (Qxb6600799aDoorCards.lean) ties it to the program's text. -/
def laid_unicode_utf8_acceptRanges {H : Type} : DataW H := .agg [.agg [.lit (.int .u8 128), .lit (.int .u8 191)], .agg [.lit (.int .u8 160), .lit (.int .u8 191)], .agg [.lit (.int .u8 128), .lit (.int .u8 159)], .agg [.lit (.int .u8 144), .lit (.int .u8 191)], .agg [.lit (.int .u8 128), .lit (.int .u8 143)], .agg [.lit (.int .u8 0), .lit (.int .u8 0)], .agg [.lit (.int .u8 0), .lit (.int .u8 0)], .agg [.lit (.int .u8 0), .lit (.int .u8 0)], .agg [.lit (.int .u8 0), .lit (.int .u8 0)], .agg [.lit (.int .u8 0), .lit (.int .u8 0)], .agg [.lit (.int .u8 0), .lit (.int .u8 0)], .agg [.lit (.int .u8 0), .lit (.int .u8 0)], .agg [.lit (.int .u8 0), .lit (.int .u8 0)], .agg [.lit (.int .u8 0), .lit (.int .u8 0)], .agg [.lit (.int .u8 0), .lit (.int .u8 0)], .agg [.lit (.int .u8 0), .lit (.int .u8 0)]]
/-- One of Go's own tables, pinned by name: the form's constant. -/
def laid_unicode_utf8_first : DataW Unit := Go.Pinned.utf8First

/-- 'zzlaws_root_b1.FnReadDecimalMatchesGrammarModel': WHATEVER THE INPUT: true; the input reads as it did. -/
def fnReadDecimalMatchesGrammarModelSpec : ChangeSpec := { name := "fnReadDecimalMatchesGrammarModel", fn := fun _ => fun
  | [d] => { results := [.lit (.bool true)], args := [d] }
  | _ => none }
def fnReadDecimalMatchesGrammarModelRow : OpenClaim := { program := "qxb6600799adoor", sum := "404a9739d24799bd142a40888245bb067b5a78c29fc15022f71299b3d3bbbbe2", func := "example.com/leafmark/leafmark/zzlaws_root_b1.FnReadDecimalMatchesGrammarModel", spec := "fnReadDecimalMatchesGrammarModel", inPlace := ["internal/bytealg.IndexByteString", "internal/bytealg.IndexString"], unfollowed := true, recurses := true, named := ["unicode/utf8.first", "unicode/utf8.acceptRanges", "internal/bytealg.MaxLen"], apart := false, laid := [("unicode/utf8.acceptRanges", laid_unicode_utf8_acceptRanges), ("unicode/utf8.first", laid_unicode_utf8_first)] }
def FnReadDecimalMatchesGrammarModelSaid : Prop := fnReadDecimalMatchesGrammarModelRow.holds Tryd.pinned (OpenSpec.ofChange fnReadDecimalMatchesGrammarModelSpec)

/-- ITS FALSE NEIGHBOUR: 'it returns false'. Refute it at one input. -/
def fnReadDecimalMatchesGrammarModelWrong : ChangeSpec := { name := "fnReadDecimalMatchesGrammarModel", fn := fun _ => fun
  | [d] => { results := [.lit (.bool false)], args := [d] }
  | _ => none }
def FnReadDecimalMatchesGrammarModelWrongFalsely : Prop := fnReadDecimalMatchesGrammarModelRow.holds Tryd.pinned (OpenSpec.ofChange fnReadDecimalMatchesGrammarModelWrong)

/-- 'zzlaws_root_b1.FnReadDecimalCanonicalTextReadsBack': WHATEVER THE INPUT: true; the input reads as it did. -/
def fnReadDecimalCanonicalTextReadsBackSpec : ChangeSpec := { name := "fnReadDecimalCanonicalTextReadsBack", fn := fun _ => fun
  | [d] => { results := [.lit (.bool true)], args := [d] }
  | _ => none }
def fnReadDecimalCanonicalTextReadsBackRow : OpenClaim := { program := "qxb6600799adoor", sum := "404a9739d24799bd142a40888245bb067b5a78c29fc15022f71299b3d3bbbbe2", func := "example.com/leafmark/leafmark/zzlaws_root_b1.FnReadDecimalCanonicalTextReadsBack", spec := "fnReadDecimalCanonicalTextReadsBack", inPlace := ["internal/bytealg.IndexByteString", "internal/bytealg.IndexString"], unfollowed := true, recurses := true, named := ["unicode/utf8.first", "unicode/utf8.acceptRanges", "internal/bytealg.MaxLen"], apart := false, laid := [("unicode/utf8.acceptRanges", laid_unicode_utf8_acceptRanges), ("unicode/utf8.first", laid_unicode_utf8_first)] }
def FnReadDecimalCanonicalTextReadsBackSaid : Prop := fnReadDecimalCanonicalTextReadsBackRow.holds Tryd.pinned (OpenSpec.ofChange fnReadDecimalCanonicalTextReadsBackSpec)

/-- ITS FALSE NEIGHBOUR: 'it returns false'. Refute it at one input. -/
def fnReadDecimalCanonicalTextReadsBackWrong : ChangeSpec := { name := "fnReadDecimalCanonicalTextReadsBack", fn := fun _ => fun
  | [d] => { results := [.lit (.bool false)], args := [d] }
  | _ => none }
def FnReadDecimalCanonicalTextReadsBackWrongFalsely : Prop := fnReadDecimalCanonicalTextReadsBackRow.holds Tryd.pinned (OpenSpec.ofChange fnReadDecimalCanonicalTextReadsBackWrong)

/-- 'zzlaws_root_b1.FnReadDecimalMinusNegates': WHATEVER THE INPUT: true; the input reads as it did. -/
def fnReadDecimalMinusNegatesSpec : ChangeSpec := { name := "fnReadDecimalMinusNegates", fn := fun _ => fun
  | [d] => { results := [.lit (.bool true)], args := [d] }
  | _ => none }
def fnReadDecimalMinusNegatesRow : OpenClaim := { program := "qxb6600799adoor", sum := "404a9739d24799bd142a40888245bb067b5a78c29fc15022f71299b3d3bbbbe2", func := "example.com/leafmark/leafmark/zzlaws_root_b1.FnReadDecimalMinusNegates", spec := "fnReadDecimalMinusNegates", inPlace := ["internal/bytealg.IndexByteString", "internal/bytealg.IndexString"], unfollowed := true, recurses := true, named := ["unicode/utf8.first", "unicode/utf8.acceptRanges", "internal/bytealg.MaxLen"], apart := false, laid := [("unicode/utf8.acceptRanges", laid_unicode_utf8_acceptRanges), ("unicode/utf8.first", laid_unicode_utf8_first)] }
def FnReadDecimalMinusNegatesSaid : Prop := fnReadDecimalMinusNegatesRow.holds Tryd.pinned (OpenSpec.ofChange fnReadDecimalMinusNegatesSpec)

/-- ITS FALSE NEIGHBOUR: 'it returns false'. Refute it at one input. -/
def fnReadDecimalMinusNegatesWrong : ChangeSpec := { name := "fnReadDecimalMinusNegates", fn := fun _ => fun
  | [d] => { results := [.lit (.bool false)], args := [d] }
  | _ => none }
def FnReadDecimalMinusNegatesWrongFalsely : Prop := fnReadDecimalMinusNegatesRow.holds Tryd.pinned (OpenSpec.ofChange fnReadDecimalMinusNegatesWrong)

end Rows
end Go.Proofs.Qxb6600799aDoor
