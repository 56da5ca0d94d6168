/-
  DERIVED. GIVEN WITH THE SEED: THE CARDS: each row of Qxb6002673aDoorRows.lean that lists a variable, with what it lists TIED to the program's text (the seventh form; the later family's looks); each row that meets fmt, with fmt's text TOLD by the authors' own Lean function (tested against real Go, not proved from fmt's source: count such statements apart). THE CARD IS WHAT COUNTS. Prove the row's statement (the work); the ties are given (Qxb6002673aDoorTie.lean); close each card by the builder's one call (the guide's Derived/Test/ToyasCard.lean, 'card_holds'). Laid BY PROGRAM, IN A SANDBOX (cutbox-door.mjs). By AI agents, Wed Nov 11 2026. No macro, syntax, notation, axiom, sorry.
-/
import Derived.Test.Qxb6002673aDoorRows
import GoSem.ClaimSeven
namespace Go.Proofs.Qxb6002673aDoor
namespace Rows

/-- THE TIED CARD OF 'zzlaws_root_b1.FnIsDeviceASCIISpec'. -/
def fnIsDeviceASCIISpecCard : Claim7 := { stood := { row := fnIsDeviceASCIISpecRow, standIns := [], harness := (true, "79c7ec6356959a1a2173e06b346571846ea05aeac95d4f4551436e6844c7a7d1"), looks := false }, kinds := [], alts := [], laidByText := true, laidKinds := [.data, .pinned, .pinned], laidTests := true, laidLooks := .later }
def FnIsDeviceASCIISpecCardSaid : Prop := Claim7.holds Tryd.pinned (.plain (OpenSpec.ofChange fnIsDeviceASCIISpecSpec)) fnIsDeviceASCIISpecCard

/-- THE TIED CARD OF 'zzlaws_root_b1.FnIsDeviceIgnoresASCIICase'. -/
def fnIsDeviceIgnoresASCIICaseCard : Claim7 := { stood := { row := fnIsDeviceIgnoresASCIICaseRow, standIns := [], harness := (true, "79c7ec6356959a1a2173e06b346571846ea05aeac95d4f4551436e6844c7a7d1"), looks := false }, kinds := [], alts := [], laidByText := true, laidKinds := [.data, .pinned, .pinned], laidTests := true, laidLooks := .later }
def FnIsDeviceIgnoresASCIICaseCardSaid : Prop := Claim7.holds Tryd.pinned (.plain (OpenSpec.ofChange fnIsDeviceIgnoresASCIICaseSpec)) fnIsDeviceIgnoresASCIICaseCard

/-- THE TIED CARD OF 'zzlaws_root_b1.FnIsDeviceRefusesOutsideItsShape'. -/
def fnIsDeviceRefusesOutsideItsShapeCard : Claim7 := { stood := { row := fnIsDeviceRefusesOutsideItsShapeRow, standIns := [], harness := (true, "79c7ec6356959a1a2173e06b346571846ea05aeac95d4f4551436e6844c7a7d1"), looks := false }, kinds := [], alts := [], laidByText := true, laidKinds := [.data, .pinned, .pinned], laidTests := true, laidLooks := .later }
def FnIsDeviceRefusesOutsideItsShapeCardSaid : Prop := Claim7.holds Tryd.pinned (.plain (OpenSpec.ofChange fnIsDeviceRefusesOutsideItsShapeSpec)) fnIsDeviceRefusesOutsideItsShapeCard
end Rows
end Go.Proofs.Qxb6002673aDoor
