/-
  DERIVED. GIVEN WITH THE SEED: THE CARDS: each row of YtmokjaddbmcopaaGreatDoorRows.lean that lists a variable, with what it lists TIED to the program's text (the seventh form; the later family's looks); each row that meets fmt, with fmt's text TOLD by the authors' own Lean function (tested against real Go, not proved from fmt's source: count such statements apart). THE CARD IS WHAT COUNTS. Prove the row's statement (the work); the ties are given (YtmokjaddbmcopaaGreatDoorTie.lean); close each card by the builder's one call (the guide's Derived/Test/ToyasCard.lean, 'card_holds'). Laid BY PROGRAM, IN A SANDBOX (cutbox-door.mjs). By AI agents, Wed Nov 11 2026. No macro, syntax, notation, axiom, sorry.
-/
import Derived.Test.YtmokjaddbmcopaaGreatDoorRows
import GoSem.ClaimSeven
namespace Go.Proofs.YtmokjaddbmcopaaGreatDoor
namespace Rows

/-- THE TIED CARD OF 'flaillaw09.TagReads'. -/
def tagReadsCard : Claim7 := { stood := { row := tagReadsRow, standIns := [], harness := (true, "6f41d958818cb672053107f8a3f0d0361b09ef8d81cd218887fe320d58960188"), looks := true }, kinds := [], alts := [], laidByText := true, laidKinds := [.data, .data, .data, .data, .sentinel, .sentinel, .pinned], laidTests := true, laidLooks := .later }
def TagReadsCardSaid : Prop := Claim7.holds Tryz.pinned (.plain (OpenSpec.ofChange tagReadsSpec)) tagReadsCard

/-- THE TIED CARD OF 'flaillaw16.DriveShape'. -/
def driveShapeCard : Claim7 := { stood := { row := driveShapeRow, standIns := [], harness := (true, "6f41d958818cb672053107f8a3f0d0361b09ef8d81cd218887fe320d58960188"), looks := true }, kinds := [], alts := [], laidByText := true, laidKinds := [.data, .data, .data, .data, .sentinel, .sentinel, .pinned], laidTests := true, laidLooks := .later }
def DriveShapeCardSaid : Prop := Claim7.holds Tryz.pinned (.plain (OpenSpec.ofChange driveShapeSpec)) driveShapeCard

/-- THE TIED CARD OF 'flaillaw16.DriveStates'. -/
def driveStatesCard : Claim7 := { stood := { row := driveStatesRow, standIns := [], harness := (true, "6f41d958818cb672053107f8a3f0d0361b09ef8d81cd218887fe320d58960188"), looks := true }, kinds := [], alts := [], laidByText := true, laidKinds := [.data, .data, .data, .data, .sentinel, .sentinel, .pinned], laidTests := true, laidLooks := .later }
def DriveStatesCardSaid : Prop := Claim7.holds Tryz.pinned (.plain (OpenSpec.ofChange driveStatesSpec)) driveStatesCard

/-- THE TIED CARD OF 'flaillaw16.DriveData'. -/
def driveDataCard : Claim7 := { stood := { row := driveDataRow, standIns := [], harness := (true, "6f41d958818cb672053107f8a3f0d0361b09ef8d81cd218887fe320d58960188"), looks := true }, kinds := [], alts := [], laidByText := true, laidKinds := [.data, .data, .data, .data, .sentinel, .sentinel, .pinned], laidTests := true, laidLooks := .later }
def DriveDataCardSaid : Prop := Claim7.holds Tryz.pinned (.plain (OpenSpec.ofChange driveDataSpec)) driveDataCard

/-- THE TIED CARD OF 'flaillaw16.DriveWithin'. -/
def driveWithinCard : Claim7 := { stood := { row := driveWithinRow, standIns := [], harness := (true, "6f41d958818cb672053107f8a3f0d0361b09ef8d81cd218887fe320d58960188"), looks := true }, kinds := [], alts := [], laidByText := true, laidKinds := [.data, .data, .data, .data, .sentinel, .sentinel, .pinned], laidTests := true, laidLooks := .later }
def DriveWithinCardSaid : Prop := Claim7.holds Tryz.pinned (.plain (OpenSpec.ofChange driveWithinSpec)) driveWithinCard

/-- THE TIED CARD OF 'flaillaw16.DriveEnds'. -/
def driveEndsCard : Claim7 := { stood := { row := driveEndsRow, standIns := [], harness := (true, "6f41d958818cb672053107f8a3f0d0361b09ef8d81cd218887fe320d58960188"), looks := true }, kinds := [], alts := [], laidByText := true, laidKinds := [.data, .data, .data, .data, .sentinel, .sentinel, .pinned], laidTests := true, laidLooks := .later }
def DriveEndsCardSaid : Prop := Claim7.holds Tryz.pinned (.plain (OpenSpec.ofChange driveEndsSpec)) driveEndsCard

/-- THE SECOND FORM's CARD OF 'flaillaw09.TagReads'. -/
def tagReadsUptoCard : Claim7 := { stood := { row := tagReadsUptoRow, standIns := [], harness := (true, "6f41d958818cb672053107f8a3f0d0361b09ef8d81cd218887fe320d58960188"), looks := true }, kinds := [], alts := [], laidByText := true, laidKinds := [.data, .data, .data, .data, .sentinel, .sentinel, .pinned], laidTests := true, laidLooks := .later }
def TagReadsUptoCardSaid : Prop := Claim7.holds Tryz.pinned (.plain (OpenSpec.upto tagReadsSpec)) tagReadsUptoCard

/-- THE SECOND FORM's CARD OF 'flaillaw16.DriveShape'. -/
def driveShapeUptoCard : Claim7 := { stood := { row := driveShapeUptoRow, standIns := [], harness := (true, "6f41d958818cb672053107f8a3f0d0361b09ef8d81cd218887fe320d58960188"), looks := true }, kinds := [], alts := [], laidByText := true, laidKinds := [.data, .data, .data, .data, .sentinel, .sentinel, .pinned], laidTests := true, laidLooks := .later }
def DriveShapeUptoCardSaid : Prop := Claim7.holds Tryz.pinned (.plain (OpenSpec.upto driveShapeSpec)) driveShapeUptoCard

/-- THE SECOND FORM's CARD OF 'flaillaw16.DriveStates'. -/
def driveStatesUptoCard : Claim7 := { stood := { row := driveStatesUptoRow, standIns := [], harness := (true, "6f41d958818cb672053107f8a3f0d0361b09ef8d81cd218887fe320d58960188"), looks := true }, kinds := [], alts := [], laidByText := true, laidKinds := [.data, .data, .data, .data, .sentinel, .sentinel, .pinned], laidTests := true, laidLooks := .later }
def DriveStatesUptoCardSaid : Prop := Claim7.holds Tryz.pinned (.plain (OpenSpec.upto driveStatesSpec)) driveStatesUptoCard

/-- THE SECOND FORM's CARD OF 'flaillaw16.DriveData'. -/
def driveDataUptoCard : Claim7 := { stood := { row := driveDataUptoRow, standIns := [], harness := (true, "6f41d958818cb672053107f8a3f0d0361b09ef8d81cd218887fe320d58960188"), looks := true }, kinds := [], alts := [], laidByText := true, laidKinds := [.data, .data, .data, .data, .sentinel, .sentinel, .pinned], laidTests := true, laidLooks := .later }
def DriveDataUptoCardSaid : Prop := Claim7.holds Tryz.pinned (.plain (OpenSpec.upto driveDataSpec)) driveDataUptoCard

/-- THE SECOND FORM's CARD OF 'flaillaw16.DriveWithin'. -/
def driveWithinUptoCard : Claim7 := { stood := { row := driveWithinUptoRow, standIns := [], harness := (true, "6f41d958818cb672053107f8a3f0d0361b09ef8d81cd218887fe320d58960188"), looks := true }, kinds := [], alts := [], laidByText := true, laidKinds := [.data, .data, .data, .data, .sentinel, .sentinel, .pinned], laidTests := true, laidLooks := .later }
def DriveWithinUptoCardSaid : Prop := Claim7.holds Tryz.pinned (.plain (OpenSpec.upto driveWithinSpec)) driveWithinUptoCard

/-- THE SECOND FORM's CARD OF 'flaillaw16.DriveEnds'. -/
def driveEndsUptoCard : Claim7 := { stood := { row := driveEndsUptoRow, standIns := [], harness := (true, "6f41d958818cb672053107f8a3f0d0361b09ef8d81cd218887fe320d58960188"), looks := true }, kinds := [], alts := [], laidByText := true, laidKinds := [.data, .data, .data, .data, .sentinel, .sentinel, .pinned], laidTests := true, laidLooks := .later }
def DriveEndsUptoCardSaid : Prop := Claim7.holds Tryz.pinned (.plain (OpenSpec.upto driveEndsSpec)) driveEndsUptoCard
end Rows
end Go.Proofs.YtmokjaddbmcopaaGreatDoor
