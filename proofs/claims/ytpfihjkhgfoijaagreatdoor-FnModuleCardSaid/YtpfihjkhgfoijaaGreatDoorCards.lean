/-
  DERIVED. GIVEN WITH THE SEED: THE CARDS: each row of YtpfihjkhgfoijaaGreatDoorRows.lean that lists a variable, with what it lists TIED to the program's text (the seventh form; the later family's looks); each row that meets fmt, with fmt's text TOLD by the authors' own Lean function (tested against real Go, not proved from fmt's source: count such statements apart). THE CARD IS WHAT COUNTS. Prove the row's statement (the work); the ties are given (YtpfihjkhgfoijaaGreatDoorTie.lean); close each card by the builder's one call (the guide's Derived/Test/ToyasCard.lean, 'card_holds'). Laid BY PROGRAM, IN A SANDBOX (cutbox-door.mjs). By AI agents, Wed Nov 11 2026. No macro, syntax, notation, axiom, sorry.
-/
import Derived.Test.YtpfihjkhgfoijaaGreatDoorRows
import GoSem.ClaimSeven
namespace Go.Proofs.YtpfihjkhgfoijaaGreatDoor
namespace Rows

/-- THE TIED CARD OF 'laws.FnModule'. -/
def fnModuleCard : Claim7 := { stood := { row := fnModuleRow, standIns := [], harness := (true, "93b4179479ba5e5baa3acbe872b8a2073ae6bfdcacadfc185981b5c578b2160e"), looks := true }, kinds := [], alts := [], laidByText := true, laidKinds := [.data, .data, .data, .data, .data, .data, .pinned, .pinned, .pinned, .pinned, .pinned, .pinned], laidTests := true, laidLooks := .later }
def FnModuleCardSaid : Prop := Claim7.holds Tryz.pinned (.plain (OpenSpec.ofChange fnModuleSpec)) fnModuleCard

/-- THE SECOND FORM's CARD OF 'laws.FnModule'. -/
def fnModuleUptoCard : Claim7 := { stood := { row := fnModuleUptoRow, standIns := [], harness := (true, "93b4179479ba5e5baa3acbe872b8a2073ae6bfdcacadfc185981b5c578b2160e"), looks := true }, kinds := [], alts := [], laidByText := true, laidKinds := [.data, .data, .data, .data, .data, .data, .pinned, .pinned, .pinned, .pinned, .pinned, .pinned], laidTests := true, laidLooks := .later }
def FnModuleUptoCardSaid : Prop := Claim7.holds Tryz.pinned (.plain (OpenSpec.upto fnModuleSpec)) fnModuleUptoCard
end Rows
end Go.Proofs.YtpfihjkhgfoijaaGreatDoor
