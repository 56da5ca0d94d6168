/-
  DERIVED. GIVEN WITH THE SEED: THE CARDS: each row of Qxb6600238aDoorRows.lean that lists a variable, with what it lists TIED to the program's text (the seventh form; the later family's looks); each row that meets fmt, with fmt's text TOLD by the authors' own Lean function (tested against real Go, not proved from fmt's source: count such statements apart). THE CARD IS WHAT COUNTS. Prove the row's statement (the work); the ties are given (Qxb6600238aDoorTie.lean); close each card by the builder's one call (the guide's Derived/Test/ToyasCard.lean, 'card_holds'). Laid BY PROGRAM, IN A SANDBOX (cutbox-door.mjs). By AI agents, Wed Nov 11 2026. No macro, syntax, notation, axiom, sorry.
-/
import Derived.Test.Qxb6600238aDoorRows
import GoSem.ClaimSeven
namespace Go.Proofs.Qxb6600238aDoor
namespace Rows

/-- THE TIED CARD OF 'zzlaws_query_b1.FnNumberLenIsLongestNumberPrefix'. -/
def fnNumberLenIsLongestNumberPrefixCard : Claim7 := { stood := { row := fnNumberLenIsLongestNumberPrefixRow, standIns := [], harness := (true, "3c999f4de186964c50f12f591a8d70e4eda7ed47719d58dadb2cfc891d740ae4"), looks := false }, kinds := [], alts := [], laidByText := true, laidKinds := [.data, .pinned], laidTests := true, laidLooks := .later }
def FnNumberLenIsLongestNumberPrefixCardSaid : Prop := Claim7.holds Tryd.pinned (.plain (OpenSpec.ofChange fnNumberLenIsLongestNumberPrefixSpec)) fnNumberLenIsLongestNumberPrefixCard

/-- THE TIED CARD OF 'zzlaws_query_b1.FnNumberLenTokenStandsAlone'. -/
def fnNumberLenTokenStandsAloneCard : Claim7 := { stood := { row := fnNumberLenTokenStandsAloneRow, standIns := [], harness := (true, "3c999f4de186964c50f12f591a8d70e4eda7ed47719d58dadb2cfc891d740ae4"), looks := false }, kinds := [], alts := [], laidByText := true, laidKinds := [.data, .pinned], laidTests := true, laidLooks := .later }
def FnNumberLenTokenStandsAloneCardSaid : Prop := Claim7.holds Tryd.pinned (.plain (OpenSpec.ofChange fnNumberLenTokenStandsAloneSpec)) fnNumberLenTokenStandsAloneCard

/-- THE TIED CARD OF 'zzlaws_query_b1.FnNumberLenStartsExactly'. -/
def fnNumberLenStartsExactlyCard : Claim7 := { stood := { row := fnNumberLenStartsExactlyRow, standIns := [], harness := (true, "3c999f4de186964c50f12f591a8d70e4eda7ed47719d58dadb2cfc891d740ae4"), looks := false }, kinds := [], alts := [], laidByText := true, laidKinds := [.data, .pinned], laidTests := true, laidLooks := .later }
def FnNumberLenStartsExactlyCardSaid : Prop := Claim7.holds Tryd.pinned (.plain (OpenSpec.ofChange fnNumberLenStartsExactlySpec)) fnNumberLenStartsExactlyCard
end Rows
end Go.Proofs.Qxb6600238aDoor
