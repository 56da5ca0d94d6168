/-
  NARROWER THAN 'FOR EVERY INPUT', by the rows' own cells (each row's printed sentence says how): FnNumberLenIsLongestNumberPrefix: laid · FnNumberLenTokenStandsAlone: laid · FnNumberLenStartsExactly: laid.
  DERIVED. THE GIVEN ROWS OF THIS SEAT. 3 by the template 'for every input the law returns true; each argument reads behind the call as it read before'; 0 by the template 'total and deterministic' (their statements: Qxb6600238aDoorTotals.lean).
  GIVEN WITH THE SEED: the statements are not yours to turn. If you find one false, say at which input.
  Laid BY PROGRAM, IN A SANDBOX (cutbox-rows.mjs): the forced cells as the released guide's own fill.sh prints them over the translation 7339c7bfd6ee0559… (all of the seat's roots in one cut). By AI agents, Wed Nov 11 2026. No macro, syntax, notation, axiom, sorry.
-/
import Derived.Test.Qxb6600238aDoorChecked
import GoSem.PinnedTables
import GoSem.Claim
import GoSem.ClaimJoined
import GoSem.ClaimMapViews
import Derived.JoinedTies
import Derived.KernelRfl
namespace Go.Proofs.Qxb6600238aDoor
/- THE CELL 'sum', in the pinned program and in every row, IS THE sha256 OF THE DUMP (.gsa) THAT Qxb6600238aDoorProg.lean LOADS. Nothing in Lean hashes anything: it is a label: what it is worth is what the hold of that sum in a sandbox is worth. -/
noncomputable def Tryd.pinned : Pinned := { name := "qxb6600238adoor", sum := "7339c7bfd6ee05596e104ec3a00e0ebea81813df7d69dc1aaa0c973723de01de", checked := Tryd.checked }
namespace Rows
def none {H : Type} : Left H := { results := [], args := [] }

/- WHAT THE LISTED PACKAGE-LEVEL VARIABLES READ AS WHEN THE CALL BEGINS. Each datum BY PROGRAM (the guide's laid-datum.mjs) off the statement by which the dump's own 'gosem.cut.vars' lays the variable. In a bare row this is a premise. The card (Qxb6600238aDoorCards.lean) ties it to the program's text. -/
def laid_unicode_utf8_acceptRanges {H : Type} : DataW H := .agg [.agg [.lit (.int .u8 128), .lit (.int .u8 191)], .agg [.lit (.int .u8 160), .lit (.int .u8 191)], .agg [.lit (.int .u8 128), .lit (.int .u8 159)], .agg [.lit (.int .u8 144), .lit (.int .u8 191)], .agg [.lit (.int .u8 128), .lit (.int .u8 143)], .agg [.lit (.int .u8 0), .lit (.int .u8 0)], .agg [.lit (.int .u8 0), .lit (.int .u8 0)], .agg [.lit (.int .u8 0), .lit (.int .u8 0)], .agg [.lit (.int .u8 0), .lit (.int .u8 0)], .agg [.lit (.int .u8 0), .lit (.int .u8 0)], .agg [.lit (.int .u8 0), .lit (.int .u8 0)], .agg [.lit (.int .u8 0), .lit (.int .u8 0)], .agg [.lit (.int .u8 0), .lit (.int .u8 0)], .agg [.lit (.int .u8 0), .lit (.int .u8 0)], .agg [.lit (.int .u8 0), .lit (.int .u8 0)], .agg [.lit (.int .u8 0), .lit (.int .u8 0)]]
/-- One of Go's own tables, pinned by name: the form's constant. -/
def laid_unicode_utf8_first : DataW Unit := Go.Pinned.utf8First

/-- 'zzlaws_query_b1.FnNumberLenIsLongestNumberPrefix': WHATEVER THE INPUT: true; the input reads as it did. -/
def fnNumberLenIsLongestNumberPrefixSpec : ChangeSpec := { name := "fnNumberLenIsLongestNumberPrefix", fn := fun _ => fun
  | [d] => { results := [.lit (.bool true)], args := [d] }
  | _ => none }
def fnNumberLenIsLongestNumberPrefixRow : OpenClaim := { program := "qxb6600238adoor", sum := "7339c7bfd6ee05596e104ec3a00e0ebea81813df7d69dc1aaa0c973723de01de", func := "example.com/stepglass/stepglass/zzlaws_query_b1.FnNumberLenIsLongestNumberPrefix", spec := "fnNumberLenIsLongestNumberPrefix", inPlace := ["internal/bytealg.IndexByteString", "internal/bytealg.IndexString"], named := ["unicode/utf8.first", "unicode/utf8.acceptRanges", "internal/bytealg.MaxLen"], apart := false, laid := [("unicode/utf8.acceptRanges", laid_unicode_utf8_acceptRanges), ("unicode/utf8.first", laid_unicode_utf8_first)] }
def FnNumberLenIsLongestNumberPrefixSaid : Prop := fnNumberLenIsLongestNumberPrefixRow.holds Tryd.pinned (OpenSpec.ofChange fnNumberLenIsLongestNumberPrefixSpec)

/-- ITS FALSE NEIGHBOUR: 'it returns false'. Refute it at one input. -/
def fnNumberLenIsLongestNumberPrefixWrong : ChangeSpec := { name := "fnNumberLenIsLongestNumberPrefix", fn := fun _ => fun
  | [d] => { results := [.lit (.bool false)], args := [d] }
  | _ => none }
def FnNumberLenIsLongestNumberPrefixWrongFalsely : Prop := fnNumberLenIsLongestNumberPrefixRow.holds Tryd.pinned (OpenSpec.ofChange fnNumberLenIsLongestNumberPrefixWrong)

/-- 'zzlaws_query_b1.FnNumberLenTokenStandsAlone': WHATEVER THE INPUT: true; the input reads as it did. -/
def fnNumberLenTokenStandsAloneSpec : ChangeSpec := { name := "fnNumberLenTokenStandsAlone", fn := fun _ => fun
  | [d1, d2] => { results := [.lit (.bool true)], args := [d1, d2] }
  | _ => none }
def fnNumberLenTokenStandsAloneRow : OpenClaim := { program := "qxb6600238adoor", sum := "7339c7bfd6ee05596e104ec3a00e0ebea81813df7d69dc1aaa0c973723de01de", func := "example.com/stepglass/stepglass/zzlaws_query_b1.FnNumberLenTokenStandsAlone", spec := "fnNumberLenTokenStandsAlone", inPlace := ["internal/bytealg.IndexByteString", "internal/bytealg.IndexString"], named := ["unicode/utf8.first", "unicode/utf8.acceptRanges", "internal/bytealg.MaxLen"], apart := false, laid := [("unicode/utf8.acceptRanges", laid_unicode_utf8_acceptRanges), ("unicode/utf8.first", laid_unicode_utf8_first)] }
def FnNumberLenTokenStandsAloneSaid : Prop := fnNumberLenTokenStandsAloneRow.holds Tryd.pinned (OpenSpec.ofChange fnNumberLenTokenStandsAloneSpec)

/-- ITS FALSE NEIGHBOUR: 'it returns false'. Refute it at one input. -/
def fnNumberLenTokenStandsAloneWrong : ChangeSpec := { name := "fnNumberLenTokenStandsAlone", fn := fun _ => fun
  | [d1, d2] => { results := [.lit (.bool false)], args := [d1, d2] }
  | _ => none }
def FnNumberLenTokenStandsAloneWrongFalsely : Prop := fnNumberLenTokenStandsAloneRow.holds Tryd.pinned (OpenSpec.ofChange fnNumberLenTokenStandsAloneWrong)

/-- 'zzlaws_query_b1.FnNumberLenStartsExactly': WHATEVER THE INPUT: true; the input reads as it did. -/
def fnNumberLenStartsExactlySpec : ChangeSpec := { name := "fnNumberLenStartsExactly", fn := fun _ => fun
  | [d] => { results := [.lit (.bool true)], args := [d] }
  | _ => none }
def fnNumberLenStartsExactlyRow : OpenClaim := { program := "qxb6600238adoor", sum := "7339c7bfd6ee05596e104ec3a00e0ebea81813df7d69dc1aaa0c973723de01de", func := "example.com/stepglass/stepglass/zzlaws_query_b1.FnNumberLenStartsExactly", spec := "fnNumberLenStartsExactly", inPlace := ["internal/bytealg.IndexByteString", "internal/bytealg.IndexString"], named := ["unicode/utf8.first", "unicode/utf8.acceptRanges", "internal/bytealg.MaxLen"], apart := false, laid := [("unicode/utf8.acceptRanges", laid_unicode_utf8_acceptRanges), ("unicode/utf8.first", laid_unicode_utf8_first)] }
def FnNumberLenStartsExactlySaid : Prop := fnNumberLenStartsExactlyRow.holds Tryd.pinned (OpenSpec.ofChange fnNumberLenStartsExactlySpec)

/-- ITS FALSE NEIGHBOUR: 'it returns false'. Refute it at one input. -/
def fnNumberLenStartsExactlyWrong : ChangeSpec := { name := "fnNumberLenStartsExactly", fn := fun _ => fun
  | [d] => { results := [.lit (.bool false)], args := [d] }
  | _ => none }
def FnNumberLenStartsExactlyWrongFalsely : Prop := fnNumberLenStartsExactlyRow.holds Tryd.pinned (OpenSpec.ofChange fnNumberLenStartsExactlyWrong)

end Rows
end Go.Proofs.Qxb6600238aDoor
