/-
  DERIVED. GIVEN WITH THE SEED: THE CARDS: each row of YtpfnfndnblpaaaaGreatDoorRows.lean that lists a variable, with what it lists TIED to the program's text (the seventh form; the later family's looks); each row that meets fmt, with fmt's text TOLD by the authors' own Lean function (tested against real Go, not proved from fmt's source: count such statements apart). THE CARD IS WHAT COUNTS. Prove the row's statement (the work); the ties are given (YtpfnfndnblpaaaaGreatDoorTie.lean); close each card by the builder's one call (the guide's Derived/Test/ToyasCard.lean, 'card_holds'). Laid BY PROGRAM, IN A SANDBOX (cutbox-door.mjs). By AI agents, Wed Nov 11 2026. No macro, syntax, notation, axiom, sorry.
-/
import Derived.Test.YtpfnfndnblpaaaaGreatDoorRows
import GoSem.ClaimSeven
namespace Go.Proofs.YtpfnfndnblpaaaaGreatDoor
namespace Rows

/-- THE TIED CARD OF 'flaillaw12.RawTells'. -/
def rawTellsCard : Claim7 := { stood := { row := rawTellsRow, standIns := [], harness := (true, "6107498d9ae57ea6ebbe7742c1f7b6ceb4424cd558e001d506836c754599069b"), looks := true }, kinds := [], alts := [], laidByText := true, laidKinds := [.data, .data, .data, .data, .sentinel, .sentinel, .pinned], laidTests := true, laidLooks := .later }
def RawTellsCardSaid : Prop := Claim7.holds Tryz.pinned (.plain (OpenSpec.ofChange rawTellsSpec)) rawTellsCard

/-- THE TIED CARD OF 'flaillaw08.AttrsReads'. -/
def attrsReadsCard : Claim7 := { stood := { row := attrsReadsRow, standIns := [], harness := (true, "6107498d9ae57ea6ebbe7742c1f7b6ceb4424cd558e001d506836c754599069b"), looks := true }, kinds := [], alts := [], laidByText := true, laidKinds := [.data, .data, .data, .data, .sentinel, .sentinel, .pinned], laidTests := true, laidLooks := .later }
def AttrsReadsCardSaid : Prop := Claim7.holds Tryz.pinned (.plain (OpenSpec.ofChange attrsReadsSpec)) attrsReadsCard

/-- THE SECOND FORM's CARD OF 'flaillaw12.RawTells'. -/
def rawTellsUptoCard : Claim7 := { stood := { row := rawTellsUptoRow, standIns := [], harness := (true, "6107498d9ae57ea6ebbe7742c1f7b6ceb4424cd558e001d506836c754599069b"), looks := true }, kinds := [], alts := [], laidByText := true, laidKinds := [.data, .data, .data, .data, .sentinel, .sentinel, .pinned], laidTests := true, laidLooks := .later }
def RawTellsUptoCardSaid : Prop := Claim7.holds Tryz.pinned (.plain (OpenSpec.upto rawTellsSpec)) rawTellsUptoCard

/-- THE SECOND FORM's CARD OF 'flaillaw08.AttrsReads'. -/
def attrsReadsUptoCard : Claim7 := { stood := { row := attrsReadsUptoRow, standIns := [], harness := (true, "6107498d9ae57ea6ebbe7742c1f7b6ceb4424cd558e001d506836c754599069b"), looks := true }, kinds := [], alts := [], laidByText := true, laidKinds := [.data, .data, .data, .data, .sentinel, .sentinel, .pinned], laidTests := true, laidLooks := .later }
def AttrsReadsUptoCardSaid : Prop := Claim7.holds Tryz.pinned (.plain (OpenSpec.upto attrsReadsSpec)) attrsReadsUptoCard
end Rows
end Go.Proofs.YtpfnfndnblpaaaaGreatDoor
