/-
  DERIVED. GIVEN WITH THE SEED: THE CARDS: each row of YtmokjaddbmcopaaDoorRows.lean that lists a variable, with what it lists TIED to the program's text (the seventh form; the later family's looks); each row that meets fmt, with fmt's text TOLD by the authors' own Lean function (tested against real Go, not proved from fmt's source: count such statements apart). THE CARD IS WHAT COUNTS. Prove the row's statement (the work); the ties are given (YtmokjaddbmcopaaDoorTie.lean); close each card by the builder's one call (the guide's Derived/Test/ToyasCard.lean, 'card_holds'). Laid BY PROGRAM, IN A SANDBOX (cutbox-door.mjs). By AI agents, Wed Nov 11 2026. No macro, syntax, notation, axiom, sorry.
-/
import Derived.Test.YtmokjaddbmcopaaDoorRows
import GoSem.ClaimSeven
namespace Go.Proofs.YtmokjaddbmcopaaDoor
namespace Rows

/-- THE TIED CARD OF 'flaillaw09.TagWritten'. -/
def tagWrittenCard : Claim7 := { stood := { row := tagWrittenRow, standIns := [], harness := (true, "30dc98967809518d60f9dfcda01edbd4b6055962a1172f6c983fc2dfb1feb0ef"), looks := true }, kinds := [], alts := [], laidByText := true, laidKinds := [.data, .data, .data, .data, .sentinel, .sentinel, .pinned], laidTests := true, laidLooks := .later }
def TagWrittenCardSaid : Prop := Claim7.holds Tryd.pinned (.plain (OpenSpec.ofChange tagWrittenSpec)) tagWrittenCard

/-- THE SECOND FORM's CARD OF 'flaillaw09.TagWritten'. -/
def tagWrittenUptoCard : Claim7 := { stood := { row := tagWrittenUptoRow, standIns := [], harness := (true, "30dc98967809518d60f9dfcda01edbd4b6055962a1172f6c983fc2dfb1feb0ef"), looks := true }, kinds := [], alts := [], laidByText := true, laidKinds := [.data, .data, .data, .data, .sentinel, .sentinel, .pinned], laidTests := true, laidLooks := .later }
def TagWrittenUptoCardSaid : Prop := Claim7.holds Tryd.pinned (.plain (OpenSpec.upto tagWrittenSpec)) tagWrittenUptoCard
end Rows
end Go.Proofs.YtmokjaddbmcopaaDoor
