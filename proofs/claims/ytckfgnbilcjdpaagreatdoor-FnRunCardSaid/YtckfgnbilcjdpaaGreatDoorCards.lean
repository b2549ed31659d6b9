/-
  DERIVED. GIVEN WITH THE SEED: THE CARDS: each row of YtckfgnbilcjdpaaGreatDoorRows.lean that lists a variable, with what it lists TIED to the program's text (the seventh form; the later family's looks); each row that meets fmt, with fmt's text TOLD by the authors' own Lean function (tested against real Go, not proved from fmt's source: count such statements apart). THE CARD IS WHAT COUNTS. Prove the row's statement (the work); the ties are given (YtckfgnbilcjdpaaGreatDoorTie.lean); close each card by the builder's one call (the guide's Derived/Test/ToyasCard.lean, 'card_holds'). Laid BY PROGRAM, IN A SANDBOX (cutbox-door.mjs). By AI agents, Wed Nov 11 2026. No macro, syntax, notation, axiom, sorry.
-/
import Derived.Test.YtckfgnbilcjdpaaGreatDoorRows
import GoSem.ClaimSeven
namespace Go.Proofs.YtckfgnbilcjdpaaGreatDoor
namespace Rows

/-- THE TIED CARD OF 'laws.FnRun'. -/
def fnRunCard : Claim7 := { stood := { row := fnRunRow, standIns := [], harness := (true, "8cd3216bcfb7a02b00e2652a7d57bbadf5bb86ee581cca87856c755bda93ed9d"), looks := false }, kinds := [], alts := [], laidByText := true, laidKinds := [.sentinel, .sentinel], laidTests := true, laidLooks := .later }
def FnRunCardSaid : Prop := Claim7.holds Tryz.pinned (.plain (OpenSpec.ofChange fnRunSpec)) fnRunCard

/-- THE SECOND FORM's CARD OF 'laws.FnRun'. -/
def fnRunUptoCard : Claim7 := { stood := { row := fnRunUptoRow, standIns := [], harness := (true, "8cd3216bcfb7a02b00e2652a7d57bbadf5bb86ee581cca87856c755bda93ed9d"), looks := false }, kinds := [], alts := [], laidByText := true, laidKinds := [.sentinel, .sentinel], laidTests := true, laidLooks := .later }
def FnRunUptoCardSaid : Prop := Claim7.holds Tryz.pinned (.plain (OpenSpec.upto fnRunSpec)) fnRunUptoCard
end Rows
end Go.Proofs.YtckfgnbilcjdpaaGreatDoor
