/-
  DERIVED. GIVEN WITH THE SEED: THE CARDS: each row of YtpcpcimbkdogcaaDoorRows.lean that lists a variable, with what it lists TIED to the program's text (the seventh form; the later family's looks); each row that meets fmt, with fmt's text TOLD by the authors' own Lean function (tested against real Go, not proved from fmt's source: count such statements apart). THE CARD IS WHAT COUNTS. Prove the row's statement (the work); the ties are given (YtpcpcimbkdogcaaDoorTie.lean); close each card by the builder's one call (the guide's Derived/Test/ToyasCard.lean, 'card_holds'). Laid BY PROGRAM, IN A SANDBOX (cutbox-door.mjs). By AI agents, Wed Nov 11 2026. No macro, syntax, notation, axiom, sorry.
-/
import Derived.Test.YtpcpcimbkdogcaaDoorRows
import GoSem.ClaimSeven
namespace Go.Proofs.YtpcpcimbkdogcaaDoor
namespace Rows

/-- THE TIED CARD OF 'flaillaw06.NamesEach'. -/
def namesEachCard : Claim7 := { stood := { row := namesEachRow, standIns := [], harness := (true, "4f9658e06df3bc371c14ab396f97742c92be6ce7d68021b4d41f39e7c9c1cae9"), looks := true }, kinds := [], alts := [], laidByText := true, laidKinds := [.data, .data, .data, .sentinel, .sentinel], laidTests := true, laidLooks := .later }
def NamesEachCardSaid : Prop := Claim7.holds Tryd.pinned (.plain (OpenSpec.ofChange namesEachSpec)) namesEachCard

/-- THE SECOND FORM's CARD OF 'flaillaw06.NamesEach'. -/
def namesEachUptoCard : Claim7 := { stood := { row := namesEachUptoRow, standIns := [], harness := (true, "4f9658e06df3bc371c14ab396f97742c92be6ce7d68021b4d41f39e7c9c1cae9"), looks := true }, kinds := [], alts := [], laidByText := true, laidKinds := [.data, .data, .data, .sentinel, .sentinel], laidTests := true, laidLooks := .later }
def NamesEachUptoCardSaid : Prop := Claim7.holds Tryd.pinned (.plain (OpenSpec.upto namesEachSpec)) namesEachUptoCard
end Rows
end Go.Proofs.YtpcpcimbkdogcaaDoor
