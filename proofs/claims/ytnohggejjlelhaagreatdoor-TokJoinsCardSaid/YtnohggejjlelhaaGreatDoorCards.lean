/-
  DERIVED. GIVEN WITH THE SEED: THE CARDS: each row of YtnohggejjlelhaaGreatDoorRows.lean that lists a variable, with what it lists TIED to the program's text (the seventh form; the later family's looks); each row that meets fmt, with fmt's text TOLD by the authors' own Lean function (tested against real Go, not proved from fmt's source: count such statements apart). THE CARD IS WHAT COUNTS. Prove the row's statement (the work); the ties are given (YtnohggejjlelhaaGreatDoorTie.lean); close each card by the builder's one call (the guide's Derived/Test/ToyasCard.lean, 'card_holds'). Laid BY PROGRAM, IN A SANDBOX (cutbox-door.mjs). By AI agents, Wed Nov 11 2026. No macro, syntax, notation, axiom, sorry.
-/
import Derived.Test.YtnohggejjlelhaaGreatDoorRows
import GoSem.ClaimSeven
namespace Go.Proofs.YtnohggejjlelhaaGreatDoor
namespace Rows

/-- THE TIED CARD OF 'flaillaw15.TokJoins'. -/
def tokJoinsCard : Claim7 := { stood := { row := tokJoinsRow, standIns := [], harness := (true, "1479fa41bbf6e00392bcfc3b558e117e574703077defa8ac5aabc0471bcc0a03"), looks := true }, kinds := [], alts := [], laidByText := true, laidKinds := [.data, .data, .data, .data, .sentinel, .sentinel, .pinned], laidTests := true, laidLooks := .later }
def TokJoinsCardSaid : Prop := Claim7.holds Tryz.pinned (.plain (OpenSpec.ofChange tokJoinsSpec)) tokJoinsCard

/-- THE SECOND FORM's CARD OF 'flaillaw15.TokJoins'. -/
def tokJoinsUptoCard : Claim7 := { stood := { row := tokJoinsUptoRow, standIns := [], harness := (true, "1479fa41bbf6e00392bcfc3b558e117e574703077defa8ac5aabc0471bcc0a03"), looks := true }, kinds := [], alts := [], laidByText := true, laidKinds := [.data, .data, .data, .data, .sentinel, .sentinel, .pinned], laidTests := true, laidLooks := .later }
def TokJoinsUptoCardSaid : Prop := Claim7.holds Tryz.pinned (.plain (OpenSpec.upto tokJoinsSpec)) tokJoinsUptoCard
end Rows
end Go.Proofs.YtnohggejjlelhaaGreatDoor
