/-
  DERIVED. GIVEN WITH THE SEED: THE CARDS: each row of YtfnnnaiegiekiaaGreatDoorRows.lean that lists a variable, with what it lists TIED to the program's text (the seventh form; the later family's looks); each row that meets fmt, with fmt's text TOLD by the authors' own Lean function (tested against real Go, not proved from fmt's source: count such statements apart). THE CARD IS WHAT COUNTS. Prove the row's statement (the work); the ties are given (YtfnnnaiegiekiaaGreatDoorTie.lean); close each card by the builder's one call (the guide's Derived/Test/ToyasCard.lean, 'card_holds'). Laid BY PROGRAM, IN A SANDBOX (cutbox-door.mjs). By AI agents, Wed Nov 11 2026. No macro, syntax, notation, axiom, sorry.
-/
import Derived.Test.YtfnnnaiegiekiaaGreatDoorRows
import GoSem.ClaimSeven
namespace Go.Proofs.YtfnnnaiegiekiaaGreatDoor
namespace Rows

/-- THE TIED CARD OF 'flaillaw15.TokTells'. -/
def tokTellsCard : Claim7 := { stood := { row := tokTellsRow, standIns := [], harness := (true, "a4e6a4059a60eacc0c06125835ce2ce8c3d251d9cd0df7b27b764533bdbea70c"), looks := true }, kinds := [], alts := [], laidByText := true, laidKinds := [.data, .data, .data, .data, .sentinel, .sentinel, .pinned], laidTests := true, laidLooks := .later }
def TokTellsCardSaid : Prop := Claim7.holds Tryz.pinned (.plain (OpenSpec.ofChange tokTellsSpec)) tokTellsCard

/-- THE TIED CARD OF 'flaillaw15.TokNext'. -/
def tokNextCard : Claim7 := { stood := { row := tokNextRow, standIns := [], harness := (true, "a4e6a4059a60eacc0c06125835ce2ce8c3d251d9cd0df7b27b764533bdbea70c"), looks := true }, kinds := [], alts := [], laidByText := true, laidKinds := [.data, .data, .data, .data, .sentinel, .sentinel, .pinned], laidTests := true, laidLooks := .later }
def TokNextCardSaid : Prop := Claim7.holds Tryz.pinned (.plain (OpenSpec.ofChange tokNextSpec)) tokNextCard

/-- THE TIED CARD OF 'flaillaw16.DriveTells'. -/
def driveTellsCard : Claim7 := { stood := { row := driveTellsRow, standIns := [], harness := (true, "a4e6a4059a60eacc0c06125835ce2ce8c3d251d9cd0df7b27b764533bdbea70c"), looks := true }, kinds := [], alts := [], laidByText := true, laidKinds := [.data, .data, .data, .data, .sentinel, .sentinel, .pinned], laidTests := true, laidLooks := .later }
def DriveTellsCardSaid : Prop := Claim7.holds Tryz.pinned (.plain (OpenSpec.ofChange driveTellsSpec)) driveTellsCard

/-- THE SECOND FORM's CARD OF 'flaillaw15.TokTells'. -/
def tokTellsUptoCard : Claim7 := { stood := { row := tokTellsUptoRow, standIns := [], harness := (true, "a4e6a4059a60eacc0c06125835ce2ce8c3d251d9cd0df7b27b764533bdbea70c"), looks := true }, kinds := [], alts := [], laidByText := true, laidKinds := [.data, .data, .data, .data, .sentinel, .sentinel, .pinned], laidTests := true, laidLooks := .later }
def TokTellsUptoCardSaid : Prop := Claim7.holds Tryz.pinned (.plain (OpenSpec.upto tokTellsSpec)) tokTellsUptoCard

/-- THE SECOND FORM's CARD OF 'flaillaw15.TokNext'. -/
def tokNextUptoCard : Claim7 := { stood := { row := tokNextUptoRow, standIns := [], harness := (true, "a4e6a4059a60eacc0c06125835ce2ce8c3d251d9cd0df7b27b764533bdbea70c"), looks := true }, kinds := [], alts := [], laidByText := true, laidKinds := [.data, .data, .data, .data, .sentinel, .sentinel, .pinned], laidTests := true, laidLooks := .later }
def TokNextUptoCardSaid : Prop := Claim7.holds Tryz.pinned (.plain (OpenSpec.upto tokNextSpec)) tokNextUptoCard

/-- THE SECOND FORM's CARD OF 'flaillaw16.DriveTells'. -/
def driveTellsUptoCard : Claim7 := { stood := { row := driveTellsUptoRow, standIns := [], harness := (true, "a4e6a4059a60eacc0c06125835ce2ce8c3d251d9cd0df7b27b764533bdbea70c"), looks := true }, kinds := [], alts := [], laidByText := true, laidKinds := [.data, .data, .data, .data, .sentinel, .sentinel, .pinned], laidTests := true, laidLooks := .later }
def DriveTellsUptoCardSaid : Prop := Claim7.holds Tryz.pinned (.plain (OpenSpec.upto driveTellsSpec)) driveTellsUptoCard
end Rows
end Go.Proofs.YtfnnnaiegiekiaaGreatDoor
