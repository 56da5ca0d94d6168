/-
  DERIVED. GIVEN WITH THE SEED: THE CARDS: each row of Qxb6002355aDoorRows.lean that lists a variable, with what it lists TIED to the program's text (the seventh form; the later family's looks); each row that meets fmt, with fmt's text TOLD by the authors' own Lean function (tested against real Go, not proved from fmt's source: count such statements apart). THE CARD IS WHAT COUNTS. Prove the row's statement (the work); the ties are given (Qxb6002355aDoorTie.lean); close each card by the builder's one call (the guide's Derived/Test/ToyasCard.lean, 'card_holds'). Laid BY PROGRAM, IN A SANDBOX (cutbox-door.mjs). By AI agents, Wed Nov 11 2026. No macro, syntax, notation, axiom, sorry.
-/
import Derived.Test.Qxb6002355aDoorRows
import GoSem.ClaimSeven
namespace Go.Proofs.Qxb6002355aDoor
namespace Rows

/-- THE TIED CARD OF 'zzlaws_pkg_archive_g1.FnMemberSizeAcceptsExactlyDecimalField'. -/
def fnMemberSizeAcceptsExactlyDecimalFieldCard : Claim7 := { stood := { row := fnMemberSizeAcceptsExactlyDecimalFieldRow, standIns := [], harness := (true, "6e76684ca37aa2b55003c21ccdef4b49722048a298fd3a25500b7daad668cab9"), looks := true }, kinds := [], alts := [], laidByText := true, laidKinds := [.data, .data, .data, .data, .sentinel, .sentinel, .listed, .data, .pinned], laidTests := true, laidLooks := .later }
def FnMemberSizeAcceptsExactlyDecimalFieldCardSaid : Prop := Claim7.holds Tryd.pinned (.plain (OpenSpec.ofChange fnMemberSizeAcceptsExactlyDecimalFieldSpec)) fnMemberSizeAcceptsExactlyDecimalFieldCard

/-- THE TIED CARD OF 'zzlaws_pkg_archive_g1.FnMemberSizeReadsWrittenSize'. -/
def fnMemberSizeReadsWrittenSizeCard : Claim7 := { stood := { row := fnMemberSizeReadsWrittenSizeRow, standIns := [], harness := (true, "6e76684ca37aa2b55003c21ccdef4b49722048a298fd3a25500b7daad668cab9"), looks := true }, kinds := [], alts := [], laidByText := true, laidKinds := [.data, .data, .data, .data, .sentinel, .sentinel, .listed, .data, .pinned], laidTests := true, laidLooks := .later }
def FnMemberSizeReadsWrittenSizeCardSaid : Prop := Claim7.holds Tryd.pinned (.plain (OpenSpec.ofChange fnMemberSizeReadsWrittenSizeSpec)) fnMemberSizeReadsWrittenSizeCard

/-- THE TIED CARD OF 'zzlaws_pkg_archive_g1.FnMemberSizeReadsOnlySizeField'. -/
def fnMemberSizeReadsOnlySizeFieldCard : Claim7 := { stood := { row := fnMemberSizeReadsOnlySizeFieldRow, standIns := [], harness := (true, "6e76684ca37aa2b55003c21ccdef4b49722048a298fd3a25500b7daad668cab9"), looks := true }, kinds := [], alts := [], laidByText := true, laidKinds := [.data, .data, .data, .data, .sentinel, .sentinel, .listed, .data, .pinned], laidTests := true, laidLooks := .later }
def FnMemberSizeReadsOnlySizeFieldCardSaid : Prop := Claim7.holds Tryd.pinned (.plain (OpenSpec.ofChange fnMemberSizeReadsOnlySizeFieldSpec)) fnMemberSizeReadsOnlySizeFieldCard
end Rows
end Go.Proofs.Qxb6002355aDoor
