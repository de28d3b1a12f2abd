/-
  DERIVED. GIVEN WITH THE SEED: THE CARDS: each row of YtpcpcimbkdogcaaGreatDoorRows.lean that lists a variable, with what it lists TIED to the program's text (the seventh form; the later family's looks); each row that meets fmt, with fmt's text TOLD by the authors' own Lean function (tested against real Go, not proved from fmt's source: count such statements apart). THE CARD IS WHAT COUNTS. Prove the row's statement (the work); the ties are given (YtpcpcimbkdogcaaGreatDoorTie.lean); close each card by the builder's one call (the guide's Derived/Test/ToyasCard.lean, 'card_holds'). Laid BY PROGRAM, IN A SANDBOX (cutbox-door.mjs). By AI agents, Wed Nov 11 2026. No macro, syntax, notation, axiom, sorry.
-/
import Derived.Test.YtpcpcimbkdogcaaGreatDoorRows
import GoSem.ClaimSeven
namespace Go.Proofs.YtpcpcimbkdogcaaGreatDoor
namespace Rows

/-- THE TIED CARD OF 'flaillaw15.TokTells'. -/
def tokTellsCard : Claim7 := { stood := { row := tokTellsRow, standIns := [], harness := (true, "51a6466817e7af1855188be7d959311f0b5422ca6cb72284946362c92aaefb8d"), looks := true }, kinds := [], alts := [], laidByText := true, laidKinds := [.data, .data, .data, .data, .sentinel, .sentinel, .pinned], laidTests := true, laidLooks := .later }
def TokTellsCardSaid : Prop := Claim7.holds Tryz.pinned (.plain (OpenSpec.ofChange tokTellsSpec)) tokTellsCard

/-- THE TIED CARD OF 'flaillaw15.TokNext'. -/
def tokNextCard : Claim7 := { stood := { row := tokNextRow, standIns := [], harness := (true, "51a6466817e7af1855188be7d959311f0b5422ca6cb72284946362c92aaefb8d"), looks := true }, kinds := [], alts := [], laidByText := true, laidKinds := [.data, .data, .data, .data, .sentinel, .sentinel, .pinned], laidTests := true, laidLooks := .later }
def TokNextCardSaid : Prop := Claim7.holds Tryz.pinned (.plain (OpenSpec.ofChange tokNextSpec)) tokNextCard

/-- THE TIED CARD OF 'flaillaw15.TokJoins'. -/
def tokJoinsCard : Claim7 := { stood := { row := tokJoinsRow, standIns := [], harness := (true, "51a6466817e7af1855188be7d959311f0b5422ca6cb72284946362c92aaefb8d"), looks := true }, kinds := [], alts := [], laidByText := true, laidKinds := [.data, .data, .data, .data, .sentinel, .sentinel, .pinned], laidTests := true, laidLooks := .later }
def TokJoinsCardSaid : Prop := Claim7.holds Tryz.pinned (.plain (OpenSpec.ofChange tokJoinsSpec)) tokJoinsCard

/-- THE TIED CARD OF 'flaillaw15.TokParts'. -/
def tokPartsCard : Claim7 := { stood := { row := tokPartsRow, standIns := [], harness := (true, "51a6466817e7af1855188be7d959311f0b5422ca6cb72284946362c92aaefb8d"), looks := true }, kinds := [], alts := [], laidByText := true, laidKinds := [.data, .data, .data, .data, .sentinel, .sentinel, .pinned], laidTests := true, laidLooks := .later }
def TokPartsCardSaid : Prop := Claim7.holds Tryz.pinned (.plain (OpenSpec.ofChange tokPartsSpec)) tokPartsCard

/-- THE TIED CARD OF 'flaillaw15.TokStates'. -/
def tokStatesCard : Claim7 := { stood := { row := tokStatesRow, standIns := [], harness := (true, "51a6466817e7af1855188be7d959311f0b5422ca6cb72284946362c92aaefb8d"), looks := true }, kinds := [], alts := [], laidByText := true, laidKinds := [.data, .data, .data, .data, .sentinel, .sentinel, .pinned], laidTests := true, laidLooks := .later }
def TokStatesCardSaid : Prop := Claim7.holds Tryz.pinned (.plain (OpenSpec.ofChange tokStatesSpec)) tokStatesCard

/-- THE TIED CARD OF 'flaillaw15.TokPlain'. -/
def tokPlainCard : Claim7 := { stood := { row := tokPlainRow, standIns := [], harness := (true, "51a6466817e7af1855188be7d959311f0b5422ca6cb72284946362c92aaefb8d"), looks := true }, kinds := [], alts := [], laidByText := true, laidKinds := [.data, .data, .data, .data, .sentinel, .sentinel, .pinned], laidTests := true, laidLooks := .later }
def TokPlainCardSaid : Prop := Claim7.holds Tryz.pinned (.plain (OpenSpec.ofChange tokPlainSpec)) tokPlainCard

/-- THE TIED CARD OF 'flaillaw15.TokNames'. -/
def tokNamesCard : Claim7 := { stood := { row := tokNamesRow, standIns := [], harness := (true, "51a6466817e7af1855188be7d959311f0b5422ca6cb72284946362c92aaefb8d"), looks := true }, kinds := [], alts := [], laidByText := true, laidKinds := [.data, .data, .data, .data, .sentinel, .sentinel, .pinned], laidTests := true, laidLooks := .later }
def TokNamesCardSaid : Prop := Claim7.holds Tryz.pinned (.plain (OpenSpec.ofChange tokNamesSpec)) tokNamesCard

/-- THE SECOND FORM's CARD OF 'flaillaw15.TokTells'. -/
def tokTellsUptoCard : Claim7 := { stood := { row := tokTellsUptoRow, standIns := [], harness := (true, "51a6466817e7af1855188be7d959311f0b5422ca6cb72284946362c92aaefb8d"), looks := true }, kinds := [], alts := [], laidByText := true, laidKinds := [.data, .data, .data, .data, .sentinel, .sentinel, .pinned], laidTests := true, laidLooks := .later }
def TokTellsUptoCardSaid : Prop := Claim7.holds Tryz.pinned (.plain (OpenSpec.upto tokTellsSpec)) tokTellsUptoCard

/-- THE SECOND FORM's CARD OF 'flaillaw15.TokNext'. -/
def tokNextUptoCard : Claim7 := { stood := { row := tokNextUptoRow, standIns := [], harness := (true, "51a6466817e7af1855188be7d959311f0b5422ca6cb72284946362c92aaefb8d"), looks := true }, kinds := [], alts := [], laidByText := true, laidKinds := [.data, .data, .data, .data, .sentinel, .sentinel, .pinned], laidTests := true, laidLooks := .later }
def TokNextUptoCardSaid : Prop := Claim7.holds Tryz.pinned (.plain (OpenSpec.upto tokNextSpec)) tokNextUptoCard

/-- THE SECOND FORM's CARD OF 'flaillaw15.TokJoins'. -/
def tokJoinsUptoCard : Claim7 := { stood := { row := tokJoinsUptoRow, standIns := [], harness := (true, "51a6466817e7af1855188be7d959311f0b5422ca6cb72284946362c92aaefb8d"), looks := true }, kinds := [], alts := [], laidByText := true, laidKinds := [.data, .data, .data, .data, .sentinel, .sentinel, .pinned], laidTests := true, laidLooks := .later }
def TokJoinsUptoCardSaid : Prop := Claim7.holds Tryz.pinned (.plain (OpenSpec.upto tokJoinsSpec)) tokJoinsUptoCard

/-- THE SECOND FORM's CARD OF 'flaillaw15.TokParts'. -/
def tokPartsUptoCard : Claim7 := { stood := { row := tokPartsUptoRow, standIns := [], harness := (true, "51a6466817e7af1855188be7d959311f0b5422ca6cb72284946362c92aaefb8d"), looks := true }, kinds := [], alts := [], laidByText := true, laidKinds := [.data, .data, .data, .data, .sentinel, .sentinel, .pinned], laidTests := true, laidLooks := .later }
def TokPartsUptoCardSaid : Prop := Claim7.holds Tryz.pinned (.plain (OpenSpec.upto tokPartsSpec)) tokPartsUptoCard

/-- THE SECOND FORM's CARD OF 'flaillaw15.TokStates'. -/
def tokStatesUptoCard : Claim7 := { stood := { row := tokStatesUptoRow, standIns := [], harness := (true, "51a6466817e7af1855188be7d959311f0b5422ca6cb72284946362c92aaefb8d"), looks := true }, kinds := [], alts := [], laidByText := true, laidKinds := [.data, .data, .data, .data, .sentinel, .sentinel, .pinned], laidTests := true, laidLooks := .later }
def TokStatesUptoCardSaid : Prop := Claim7.holds Tryz.pinned (.plain (OpenSpec.upto tokStatesSpec)) tokStatesUptoCard

/-- THE SECOND FORM's CARD OF 'flaillaw15.TokPlain'. -/
def tokPlainUptoCard : Claim7 := { stood := { row := tokPlainUptoRow, standIns := [], harness := (true, "51a6466817e7af1855188be7d959311f0b5422ca6cb72284946362c92aaefb8d"), looks := true }, kinds := [], alts := [], laidByText := true, laidKinds := [.data, .data, .data, .data, .sentinel, .sentinel, .pinned], laidTests := true, laidLooks := .later }
def TokPlainUptoCardSaid : Prop := Claim7.holds Tryz.pinned (.plain (OpenSpec.upto tokPlainSpec)) tokPlainUptoCard

/-- THE SECOND FORM's CARD OF 'flaillaw15.TokNames'. -/
def tokNamesUptoCard : Claim7 := { stood := { row := tokNamesUptoRow, standIns := [], harness := (true, "51a6466817e7af1855188be7d959311f0b5422ca6cb72284946362c92aaefb8d"), looks := true }, kinds := [], alts := [], laidByText := true, laidKinds := [.data, .data, .data, .data, .sentinel, .sentinel, .pinned], laidTests := true, laidLooks := .later }
def TokNamesUptoCardSaid : Prop := Claim7.holds Tryz.pinned (.plain (OpenSpec.upto tokNamesSpec)) tokNamesUptoCard
end Rows
end Go.Proofs.YtpcpcimbkdogcaaGreatDoor
