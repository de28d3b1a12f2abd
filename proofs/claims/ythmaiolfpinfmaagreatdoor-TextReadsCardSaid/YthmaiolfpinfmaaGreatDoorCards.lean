/-
  DERIVED. GIVEN WITH THE SEED: THE CARDS: each row of YthmaiolfpinfmaaGreatDoorRows.lean that lists a variable, with what it lists TIED to the program's text (the seventh form; the later family's looks); each row that meets fmt, with fmt's text TOLD by the authors' own Lean function (tested against real Go, not proved from fmt's source: count such statements apart). THE CARD IS WHAT COUNTS. Prove the row's statement (the work); the ties are given (YthmaiolfpinfmaaGreatDoorTie.lean); close each card by the builder's one call (the guide's Derived/Test/ToyasCard.lean, 'card_holds'). Laid BY PROGRAM, IN A SANDBOX (cutbox-door.mjs). By AI agents, Wed Nov 11 2026. No macro, syntax, notation, axiom, sorry.
-/
import Derived.Test.YthmaiolfpinfmaaGreatDoorRows
import GoSem.ClaimSeven
namespace Go.Proofs.YthmaiolfpinfmaaGreatDoor
namespace Rows

/-- THE TIED CARD OF 'flaillaw14.TextReads'. -/
def textReadsCard : Claim7 := { stood := { row := textReadsRow, standIns := [], harness := (true, "dece43ad0a616692935907e610912a78277bebf1feb56d64e402f785b6bb78b3"), looks := true }, kinds := [], alts := [], laidByText := true, laidKinds := [.data, .data, .data, .sentinel, .sentinel], laidTests := true, laidLooks := .later }
def TextReadsCardSaid : Prop := Claim7.holds Tryz.pinned (.plain (OpenSpec.ofChange textReadsSpec)) textReadsCard

/-- THE SECOND FORM's CARD OF 'flaillaw14.TextReads'. -/
def textReadsUptoCard : Claim7 := { stood := { row := textReadsUptoRow, standIns := [], harness := (true, "dece43ad0a616692935907e610912a78277bebf1feb56d64e402f785b6bb78b3"), looks := true }, kinds := [], alts := [], laidByText := true, laidKinds := [.data, .data, .data, .sentinel, .sentinel], laidTests := true, laidLooks := .later }
def TextReadsUptoCardSaid : Prop := Claim7.holds Tryz.pinned (.plain (OpenSpec.upto textReadsSpec)) textReadsUptoCard
end Rows
end Go.Proofs.YthmaiolfpinfmaaGreatDoor
