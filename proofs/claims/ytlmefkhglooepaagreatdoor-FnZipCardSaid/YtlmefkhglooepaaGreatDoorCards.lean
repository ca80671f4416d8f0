/-
  DERIVED. GIVEN WITH THE SEED: THE CARDS: each row of YtlmefkhglooepaaGreatDoorRows.lean that lists a variable, with what it lists TIED to the program's text (the seventh form; the later family's looks); each row that meets fmt, with fmt's text TOLD by the authors' own Lean function (tested against real Go, not proved from fmt's source: count such statements apart). THE CARD IS WHAT COUNTS. Prove the row's statement (the work); the ties are given (YtlmefkhglooepaaGreatDoorTie.lean); close each card by the builder's one call (the guide's Derived/Test/ToyasCard.lean, 'card_holds'). Laid BY PROGRAM, IN A SANDBOX (cutbox-door.mjs). By AI agents, Wed Nov 11 2026. No macro, syntax, notation, axiom, sorry.
-/
import Derived.Test.YtlmefkhglooepaaGreatDoorRows
import GoSem.ClaimSeven
namespace Go.Proofs.YtlmefkhglooepaaGreatDoor
namespace Rows

/-- THE TIED CARD OF 'laws.FnZip'. -/
def fnZipCard : Claim7 := { stood := { row := fnZipRow, standIns := [], harness := (true, "bc13c71584e8ebd5ba730d2fea8e4f91ce47cc1dd7581448405968c0524c9818"), looks := true }, kinds := [], alts := [], laidByText := true, laidKinds := [.data, .sentinel, .sentinel, .sentinel, .sentinel, .sentinel, .sentinel, .sentinel, .sentinel, .sentinel, .sentinel, .sentinel, .sentinel, .pinned], laidTests := true, laidLooks := .later }
def FnZipCardSaid : Prop := Claim7.holds Tryz.pinned (.plain (OpenSpec.ofChange fnZipSpec)) fnZipCard

/-- THE SECOND FORM's CARD OF 'laws.FnZip'. -/
def fnZipUptoCard : Claim7 := { stood := { row := fnZipUptoRow, standIns := [], harness := (true, "bc13c71584e8ebd5ba730d2fea8e4f91ce47cc1dd7581448405968c0524c9818"), looks := true }, kinds := [], alts := [], laidByText := true, laidKinds := [.data, .sentinel, .sentinel, .sentinel, .sentinel, .sentinel, .sentinel, .sentinel, .sentinel, .sentinel, .sentinel, .sentinel, .sentinel, .pinned], laidTests := true, laidLooks := .later }
def FnZipUptoCardSaid : Prop := Claim7.holds Tryz.pinned (.plain (OpenSpec.upto fnZipSpec)) fnZipUptoCard
end Rows
end Go.Proofs.YtlmefkhglooepaaGreatDoor
