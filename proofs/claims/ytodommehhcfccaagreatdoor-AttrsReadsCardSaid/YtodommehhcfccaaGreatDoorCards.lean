/-
  DERIVED. GIVEN WITH THE SEED: THE CARDS: each row of YtodommehhcfccaaGreatDoorRows.lean that lists a variable, with what it lists TIED to the program's text (the seventh form; the later family's looks); each row that meets fmt, with fmt's text TOLD by the authors' own Lean function (tested against real Go, not proved from fmt's source: count such statements apart). THE CARD IS WHAT COUNTS. Prove the row's statement (the work); the ties are given (YtodommehhcfccaaGreatDoorTie.lean); close each card by the builder's one call (the guide's Derived/Test/ToyasCard.lean, 'card_holds'). Laid BY PROGRAM, IN A SANDBOX (cutbox-door.mjs). By AI agents, Wed Nov 11 2026. No macro, syntax, notation, axiom, sorry.
-/
import Derived.Test.YtodommehhcfccaaGreatDoorRows
import GoSem.ClaimSeven
namespace Go.Proofs.YtodommehhcfccaaGreatDoor
namespace Rows

/-- THE TIED CARD OF 'flaillaw08.AttrsReads'. -/
def attrsReadsCard : Claim7 := { stood := { row := attrsReadsRow, standIns := [], harness := (true, "5068992bddb0a168d65f8b37ff13a4afc7425fbe1b74cb8e926a21e96cb1f0e9"), looks := true }, kinds := [], alts := [], laidByText := true, laidKinds := [.data, .data, .data, .data, .sentinel, .sentinel, .pinned], laidTests := true, laidLooks := .later }
def AttrsReadsCardSaid : Prop := Claim7.holds Tryz.pinned (.plain (OpenSpec.ofChange attrsReadsSpec)) attrsReadsCard

/-- THE TIED CARD OF 'flaillaw09.TagReads'. -/
def tagReadsCard : Claim7 := { stood := { row := tagReadsRow, standIns := [], harness := (true, "5068992bddb0a168d65f8b37ff13a4afc7425fbe1b74cb8e926a21e96cb1f0e9"), looks := true }, kinds := [], alts := [], laidByText := true, laidKinds := [.data, .data, .data, .data, .sentinel, .sentinel, .pinned], laidTests := true, laidLooks := .later }
def TagReadsCardSaid : Prop := Claim7.holds Tryz.pinned (.plain (OpenSpec.ofChange tagReadsSpec)) tagReadsCard

/-- THE SECOND FORM's CARD OF 'flaillaw08.AttrsReads'. -/
def attrsReadsUptoCard : Claim7 := { stood := { row := attrsReadsUptoRow, standIns := [], harness := (true, "5068992bddb0a168d65f8b37ff13a4afc7425fbe1b74cb8e926a21e96cb1f0e9"), looks := true }, kinds := [], alts := [], laidByText := true, laidKinds := [.data, .data, .data, .data, .sentinel, .sentinel, .pinned], laidTests := true, laidLooks := .later }
def AttrsReadsUptoCardSaid : Prop := Claim7.holds Tryz.pinned (.plain (OpenSpec.upto attrsReadsSpec)) attrsReadsUptoCard

/-- THE SECOND FORM's CARD OF 'flaillaw09.TagReads'. -/
def tagReadsUptoCard : Claim7 := { stood := { row := tagReadsUptoRow, standIns := [], harness := (true, "5068992bddb0a168d65f8b37ff13a4afc7425fbe1b74cb8e926a21e96cb1f0e9"), looks := true }, kinds := [], alts := [], laidByText := true, laidKinds := [.data, .data, .data, .data, .sentinel, .sentinel, .pinned], laidTests := true, laidLooks := .later }
def TagReadsUptoCardSaid : Prop := Claim7.holds Tryz.pinned (.plain (OpenSpec.upto tagReadsSpec)) tagReadsUptoCard
end Rows
end Go.Proofs.YtodommehhcfccaaGreatDoor
