/-
  DERIVED. GIVEN WITH THE SEED: THE CARDS: each row of Qxb6002589aDoorRows.lean that lists a variable, with what it lists TIED to the program's text (the seventh form; the later family's looks); each row that meets fmt, with fmt's text TOLD by the authors' own Lean function (tested against real Go, not proved from fmt's source: count such statements apart). THE CARD IS WHAT COUNTS. Prove the row's statement (the work); the ties are given (Qxb6002589aDoorTie.lean); close each card by the builder's one call (the guide's Derived/Test/ToyasCard.lean, 'card_holds'). Laid BY PROGRAM, IN A SANDBOX (cutbox-door.mjs). By AI agents, Wed Nov 11 2026. No macro, syntax, notation, axiom, sorry.
-/
import Derived.Test.Qxb6002589aDoorRows
import GoSem.ClaimSeven
namespace Go.Proofs.Qxb6002589aDoor
namespace Rows

/-- THE TIED CARD OF 'zzlaws_internal_jsonobject_b1.FnPlainValueAgreesWithAnyValue'. -/
def fnPlainValueAgreesWithAnyValueCard : Claim7 := { stood := { row := fnPlainValueAgreesWithAnyValueRow, standIns := [], harness := (true, "7f53933c01b7c319f80e7edf88cb1cd9b4bc3735d719d1894b44ce9e082aa0b3"), looks := false }, kinds := [], alts := [], laidByText := true, laidKinds := [.data, .pinned], laidTests := true, laidLooks := .later }
def FnPlainValueAgreesWithAnyValueCardSaid : Prop := Claim7.holds Tryd.pinned (.plain (OpenSpec.ofChange fnPlainValueAgreesWithAnyValueSpec)) fnPlainValueAgreesWithAnyValueCard

/-- THE TIED CARD OF 'zzlaws_internal_jsonobject_b1.FnAnyValueMatchesJSONGrammar'. -/
def fnAnyValueMatchesJSONGrammarCard : Claim7 := { stood := { row := fnAnyValueMatchesJSONGrammarRow, standIns := [], harness := (true, "7f53933c01b7c319f80e7edf88cb1cd9b4bc3735d719d1894b44ce9e082aa0b3"), looks := false }, kinds := [], alts := [], laidByText := true, laidKinds := [.data, .pinned], laidTests := true, laidLooks := .later }
def FnAnyValueMatchesJSONGrammarCardSaid : Prop := Claim7.holds Tryd.pinned (.plain (OpenSpec.ofChange fnAnyValueMatchesJSONGrammarSpec)) fnAnyValueMatchesJSONGrammarCard
end Rows
end Go.Proofs.Qxb6002589aDoor
