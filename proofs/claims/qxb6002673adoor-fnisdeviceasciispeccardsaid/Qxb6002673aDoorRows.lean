/-
  NARROWER THAN 'FOR EVERY INPUT', by the rows' own cells (each row's printed sentence says how): FnIsDeviceASCIISpec: laid · FnIsDeviceIgnoresASCIICase: laid · FnIsDeviceRefusesOutsideItsShape: laid.
  DERIVED. THE GIVEN ROWS OF THIS SEAT. 3 by the template 'for every input the law returns true; each argument reads behind the call as it read before'; 0 by the template 'total and deterministic' (their statements: Qxb6002673aDoorTotals.lean).
  GIVEN WITH THE SEED: the statements are not yours to turn. If you find one false, say at which input.
  Laid BY PROGRAM, IN A SANDBOX (cutbox-rows.mjs): the forced cells as the released guide's own fill.sh prints them over the translation ca4f417b653a2376… (all of the seat's roots in one cut). By AI agents, Wed Nov 11 2026. No macro, syntax, notation, axiom, sorry.
-/
import Derived.Test.Qxb6002673aDoorChecked
import GoSem.PinnedTables
import GoSem.Claim
import GoSem.ClaimJoined
import GoSem.ClaimMapViews
import Derived.JoinedTies
import Derived.KernelRfl
namespace Go.Proofs.Qxb6002673aDoor
/- THE CELL 'sum', in the pinned program and in every row, IS THE sha256 OF THE DUMP (.gsa) THAT Qxb6002673aDoorProg.lean LOADS. Nothing in Lean hashes anything: it is a label: what it is worth is what the hold of that sum in a sandbox is worth. -/
noncomputable def Tryd.pinned : Pinned := { name := "qxb6002673adoor", sum := "ca4f417b653a2376ef4469b339209d905bd9a31058ac6ffccde12016b4082088", checked := Tryd.checked }
namespace Rows
def none {H : Type} : Left H := { results := [], args := [] }

/- WHAT THE LISTED PACKAGE-LEVEL VARIABLES READ AS WHEN THE CALL BEGINS. Each datum BY PROGRAM (the guide's laid-datum.mjs) off the statement by which the dump's own 'gosem.cut.vars' lays the variable. In a bare row this is a premise. The card (Qxb6002673aDoorCards.lean) ties it to the program's text. -/
def laid_unicode_utf8_acceptRanges {H : Type} : DataW H := .agg [.agg [.lit (.int .u8 128), .lit (.int .u8 191)], .agg [.lit (.int .u8 160), .lit (.int .u8 191)], .agg [.lit (.int .u8 128), .lit (.int .u8 159)], .agg [.lit (.int .u8 144), .lit (.int .u8 191)], .agg [.lit (.int .u8 128), .lit (.int .u8 143)], .agg [.lit (.int .u8 0), .lit (.int .u8 0)], .agg [.lit (.int .u8 0), .lit (.int .u8 0)], .agg [.lit (.int .u8 0), .lit (.int .u8 0)], .agg [.lit (.int .u8 0), .lit (.int .u8 0)], .agg [.lit (.int .u8 0), .lit (.int .u8 0)], .agg [.lit (.int .u8 0), .lit (.int .u8 0)], .agg [.lit (.int .u8 0), .lit (.int .u8 0)], .agg [.lit (.int .u8 0), .lit (.int .u8 0)], .agg [.lit (.int .u8 0), .lit (.int .u8 0)], .agg [.lit (.int .u8 0), .lit (.int .u8 0)], .agg [.lit (.int .u8 0), .lit (.int .u8 0)]]
/-- One of Go's own tables, pinned by name: the form's constant. -/
def laid_unicode_CaseRanges : DataW Unit := Go.Pinned.caseRanges
/-- One of Go's own tables, pinned by name: the form's constant. -/
def laid_unicode_utf8_first : DataW Unit := Go.Pinned.utf8First

/-- 'zzlaws_root_b1.FnIsDeviceASCIISpec': WHATEVER THE INPUT: true; the input reads as it did. -/
def fnIsDeviceASCIISpecSpec : ChangeSpec := { name := "fnIsDeviceASCIISpec", fn := fun _ => fun
  | [d] => { results := [.lit (.bool true)], args := [d] }
  | _ => none }
def fnIsDeviceASCIISpecRow : OpenClaim := { program := "qxb6002673adoor", sum := "ca4f417b653a2376ef4469b339209d905bd9a31058ac6ffccde12016b4082088", func := "example.com/swarmwright/swarmwright/zzlaws_root_b1.FnIsDeviceASCIISpec", spec := "fnIsDeviceASCIISpec", inPlace := ["internal/abi.NoEscape", "internal/bytealg.MakeNoZero"], unfollowed := true, recurses := true, named := ["unicode/utf8.first", "unicode/utf8.acceptRanges", "unicode.CaseRanges"], apart := false, laid := [("unicode/utf8.acceptRanges", laid_unicode_utf8_acceptRanges), ("unicode.CaseRanges", laid_unicode_CaseRanges), ("unicode/utf8.first", laid_unicode_utf8_first)] }
def FnIsDeviceASCIISpecSaid : Prop := fnIsDeviceASCIISpecRow.holds Tryd.pinned (OpenSpec.ofChange fnIsDeviceASCIISpecSpec)

/-- ITS FALSE NEIGHBOUR: 'it returns false'. Refute it at one input. -/
def fnIsDeviceASCIISpecWrong : ChangeSpec := { name := "fnIsDeviceASCIISpec", fn := fun _ => fun
  | [d] => { results := [.lit (.bool false)], args := [d] }
  | _ => none }
def FnIsDeviceASCIISpecWrongFalsely : Prop := fnIsDeviceASCIISpecRow.holds Tryd.pinned (OpenSpec.ofChange fnIsDeviceASCIISpecWrong)

/-- 'zzlaws_root_b1.FnIsDeviceIgnoresASCIICase': WHATEVER THE INPUT: true; the input reads as it did. -/
def fnIsDeviceIgnoresASCIICaseSpec : ChangeSpec := { name := "fnIsDeviceIgnoresASCIICase", fn := fun _ => fun
  | [d] => { results := [.lit (.bool true)], args := [d] }
  | _ => none }
def fnIsDeviceIgnoresASCIICaseRow : OpenClaim := { program := "qxb6002673adoor", sum := "ca4f417b653a2376ef4469b339209d905bd9a31058ac6ffccde12016b4082088", func := "example.com/swarmwright/swarmwright/zzlaws_root_b1.FnIsDeviceIgnoresASCIICase", spec := "fnIsDeviceIgnoresASCIICase", inPlace := ["internal/abi.NoEscape", "internal/bytealg.MakeNoZero"], unfollowed := true, recurses := true, named := ["unicode/utf8.first", "unicode/utf8.acceptRanges", "unicode.CaseRanges"], apart := false, laid := [("unicode/utf8.acceptRanges", laid_unicode_utf8_acceptRanges), ("unicode.CaseRanges", laid_unicode_CaseRanges), ("unicode/utf8.first", laid_unicode_utf8_first)] }
def FnIsDeviceIgnoresASCIICaseSaid : Prop := fnIsDeviceIgnoresASCIICaseRow.holds Tryd.pinned (OpenSpec.ofChange fnIsDeviceIgnoresASCIICaseSpec)

/-- ITS FALSE NEIGHBOUR: 'it returns false'. Refute it at one input. -/
def fnIsDeviceIgnoresASCIICaseWrong : ChangeSpec := { name := "fnIsDeviceIgnoresASCIICase", fn := fun _ => fun
  | [d] => { results := [.lit (.bool false)], args := [d] }
  | _ => none }
def FnIsDeviceIgnoresASCIICaseWrongFalsely : Prop := fnIsDeviceIgnoresASCIICaseRow.holds Tryd.pinned (OpenSpec.ofChange fnIsDeviceIgnoresASCIICaseWrong)

/-- 'zzlaws_root_b1.FnIsDeviceRefusesOutsideItsShape': WHATEVER THE INPUT: true; the input reads as it did. -/
def fnIsDeviceRefusesOutsideItsShapeSpec : ChangeSpec := { name := "fnIsDeviceRefusesOutsideItsShape", fn := fun _ => fun
  | [d] => { results := [.lit (.bool true)], args := [d] }
  | _ => none }
def fnIsDeviceRefusesOutsideItsShapeRow : OpenClaim := { program := "qxb6002673adoor", sum := "ca4f417b653a2376ef4469b339209d905bd9a31058ac6ffccde12016b4082088", func := "example.com/swarmwright/swarmwright/zzlaws_root_b1.FnIsDeviceRefusesOutsideItsShape", spec := "fnIsDeviceRefusesOutsideItsShape", inPlace := ["internal/abi.NoEscape", "internal/bytealg.MakeNoZero"], unfollowed := true, recurses := true, named := ["unicode/utf8.first", "unicode/utf8.acceptRanges", "unicode.CaseRanges"], apart := false, laid := [("unicode/utf8.acceptRanges", laid_unicode_utf8_acceptRanges), ("unicode.CaseRanges", laid_unicode_CaseRanges), ("unicode/utf8.first", laid_unicode_utf8_first)] }
def FnIsDeviceRefusesOutsideItsShapeSaid : Prop := fnIsDeviceRefusesOutsideItsShapeRow.holds Tryd.pinned (OpenSpec.ofChange fnIsDeviceRefusesOutsideItsShapeSpec)

/-- ITS FALSE NEIGHBOUR: 'it returns false'. Refute it at one input. -/
def fnIsDeviceRefusesOutsideItsShapeWrong : ChangeSpec := { name := "fnIsDeviceRefusesOutsideItsShape", fn := fun _ => fun
  | [d] => { results := [.lit (.bool false)], args := [d] }
  | _ => none }
def FnIsDeviceRefusesOutsideItsShapeWrongFalsely : Prop := fnIsDeviceRefusesOutsideItsShapeRow.holds Tryd.pinned (OpenSpec.ofChange fnIsDeviceRefusesOutsideItsShapeWrong)

end Rows
end Go.Proofs.Qxb6002673aDoor
