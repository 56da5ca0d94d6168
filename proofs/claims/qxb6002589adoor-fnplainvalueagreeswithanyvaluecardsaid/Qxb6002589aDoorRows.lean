/-
  NARROWER THAN 'FOR EVERY INPUT', by the rows' own cells (each row's printed sentence says how): FnPlainValueAgreesWithAnyValue: laid · FnAnyValueMatchesJSONGrammar: laid.
  DERIVED. THE GIVEN ROWS OF THIS SEAT. 2 by the template 'for every input the law returns true; each argument reads behind the call as it read before'; 0 by the template 'total and deterministic' (their statements: Qxb6002589aDoorTotals.lean).
  GIVEN WITH THE SEED: the statements are not yours to turn. If you find one false, say at which input.
  Laid BY PROGRAM, IN A SANDBOX (cutbox-rows.mjs): the forced cells as the released guide's own fill.sh prints them over the translation 29d590c26cb4254f… (all of the seat's roots in one cut). By AI agents, Wed Nov 11 2026. No macro, syntax, notation, axiom, sorry.
-/
import Derived.Test.Qxb6002589aDoorChecked
import GoSem.PinnedTables
import GoSem.Claim
import GoSem.ClaimJoined
import GoSem.ClaimMapViews
import Derived.JoinedTies
import Derived.KernelRfl
namespace Go.Proofs.Qxb6002589aDoor
/- THE CELL 'sum', in the pinned program and in every row, IS THE sha256 OF THE DUMP (.gsa) THAT Qxb6002589aDoorProg.lean LOADS. Nothing in Lean hashes anything: it is a label: what it is worth is what the hold of that sum in a sandbox is worth. -/
noncomputable def Tryd.pinned : Pinned := { name := "qxb6002589adoor", sum := "29d590c26cb4254f776257081d56ba2113bb4aaf1b95c0f8062c08b6d8bdd734", checked := Tryd.checked }
namespace Rows
def none {H : Type} : Left H := { results := [], args := [] }

/- WHAT THE LISTED PACKAGE-LEVEL VARIABLES READ AS WHEN THE CALL BEGINS. Each datum BY PROGRAM (the guide's laid-datum.mjs) off the statement by which the dump's own 'gosem.cut.vars' lays the variable. In a bare row this is a premise. The card (Qxb6002589aDoorCards.lean) ties it to the program's text. -/
def laid_unicode_utf8_acceptRanges {H : Type} : DataW H := .agg [.agg [.lit (.int .u8 128), .lit (.int .u8 191)], .agg [.lit (.int .u8 160), .lit (.int .u8 191)], .agg [.lit (.int .u8 128), .lit (.int .u8 159)], .agg [.lit (.int .u8 144), .lit (.int .u8 191)], .agg [.lit (.int .u8 128), .lit (.int .u8 143)], .agg [.lit (.int .u8 0), .lit (.int .u8 0)], .agg [.lit (.int .u8 0), .lit (.int .u8 0)], .agg [.lit (.int .u8 0), .lit (.int .u8 0)], .agg [.lit (.int .u8 0), .lit (.int .u8 0)], .agg [.lit (.int .u8 0), .lit (.int .u8 0)], .agg [.lit (.int .u8 0), .lit (.int .u8 0)], .agg [.lit (.int .u8 0), .lit (.int .u8 0)], .agg [.lit (.int .u8 0), .lit (.int .u8 0)], .agg [.lit (.int .u8 0), .lit (.int .u8 0)], .agg [.lit (.int .u8 0), .lit (.int .u8 0)], .agg [.lit (.int .u8 0), .lit (.int .u8 0)]]
/-- One of Go's own tables, pinned by name: the form's constant. -/
def laid_unicode_utf8_first : DataW Unit := Go.Pinned.utf8First

/-- 'zzlaws_internal_jsonobject_b1.FnPlainValueAgreesWithAnyValue': WHATEVER THE INPUT: true; the input reads as it did. -/
def fnPlainValueAgreesWithAnyValueSpec : ChangeSpec := { name := "fnPlainValueAgreesWithAnyValue", fn := fun _ => fun
  | [d1, d2] => { results := [.lit (.bool true)], args := [d1, d2] }
  | _ => none }
def fnPlainValueAgreesWithAnyValueRow : OpenClaim := { program := "qxb6002589adoor", sum := "29d590c26cb4254f776257081d56ba2113bb4aaf1b95c0f8062c08b6d8bdd734", func := "example.com/kinkline/kinkline/zzlaws_internal_jsonobject_b1.FnPlainValueAgreesWithAnyValue", spec := "fnPlainValueAgreesWithAnyValue", inPlace := ["internal/bytealg.IndexByteString", "internal/bytealg.IndexByte", "internal/bytealg.Index", "internal/bytealg.IndexString"], named := ["internal/bytealg.MaxLen", "unicode/utf8.first", "unicode/utf8.acceptRanges"], apart := false, laid := [("unicode/utf8.acceptRanges", laid_unicode_utf8_acceptRanges), ("unicode/utf8.first", laid_unicode_utf8_first)] }
def FnPlainValueAgreesWithAnyValueSaid : Prop := fnPlainValueAgreesWithAnyValueRow.holds Tryd.pinned (OpenSpec.ofChange fnPlainValueAgreesWithAnyValueSpec)

/-- ITS FALSE NEIGHBOUR: 'it returns false'. Refute it at one input. -/
def fnPlainValueAgreesWithAnyValueWrong : ChangeSpec := { name := "fnPlainValueAgreesWithAnyValue", fn := fun _ => fun
  | [d1, d2] => { results := [.lit (.bool false)], args := [d1, d2] }
  | _ => none }
def FnPlainValueAgreesWithAnyValueWrongFalsely : Prop := fnPlainValueAgreesWithAnyValueRow.holds Tryd.pinned (OpenSpec.ofChange fnPlainValueAgreesWithAnyValueWrong)

/-- 'zzlaws_internal_jsonobject_b1.FnAnyValueMatchesJSONGrammar': WHATEVER THE INPUT: true; the input reads as it did. -/
def fnAnyValueMatchesJSONGrammarSpec : ChangeSpec := { name := "fnAnyValueMatchesJSONGrammar", fn := fun _ => fun
  | [d1, d2] => { results := [.lit (.bool true)], args := [d1, d2] }
  | _ => none }
def fnAnyValueMatchesJSONGrammarRow : OpenClaim := { program := "qxb6002589adoor", sum := "29d590c26cb4254f776257081d56ba2113bb4aaf1b95c0f8062c08b6d8bdd734", func := "example.com/kinkline/kinkline/zzlaws_internal_jsonobject_b1.FnAnyValueMatchesJSONGrammar", spec := "fnAnyValueMatchesJSONGrammar", inPlace := ["internal/bytealg.IndexByteString", "internal/bytealg.IndexByte", "internal/bytealg.Index", "internal/bytealg.IndexString"], recurses := true, named := ["internal/bytealg.MaxLen", "unicode/utf8.first", "unicode/utf8.acceptRanges"], apart := false, laid := [("unicode/utf8.acceptRanges", laid_unicode_utf8_acceptRanges), ("unicode/utf8.first", laid_unicode_utf8_first)] }
def FnAnyValueMatchesJSONGrammarSaid : Prop := fnAnyValueMatchesJSONGrammarRow.holds Tryd.pinned (OpenSpec.ofChange fnAnyValueMatchesJSONGrammarSpec)

/-- ITS FALSE NEIGHBOUR: 'it returns false'. Refute it at one input. -/
def fnAnyValueMatchesJSONGrammarWrong : ChangeSpec := { name := "fnAnyValueMatchesJSONGrammar", fn := fun _ => fun
  | [d1, d2] => { results := [.lit (.bool false)], args := [d1, d2] }
  | _ => none }
def FnAnyValueMatchesJSONGrammarWrongFalsely : Prop := fnAnyValueMatchesJSONGrammarRow.holds Tryd.pinned (OpenSpec.ofChange fnAnyValueMatchesJSONGrammarWrong)

end Rows
end Go.Proofs.Qxb6002589aDoor
