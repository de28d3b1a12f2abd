/-
  DERIVED. GIVEN WITH THE SEED: THE CARDS: each row of YtgbgmjhnlmncnaaDoorRows.lean that lists a variable, with what it lists TIED to the program's text (the seventh form; the later family's looks); each row that meets fmt, with fmt's text TOLD by the authors' own Lean function (tested against real Go, not proved from fmt's source: count such statements apart). THE CARD IS WHAT COUNTS. Prove the row's statement (the work); the ties are given (YtgbgmjhnlmncnaaDoorTie.lean); close each card by the builder's one call (the guide's Derived/Test/ToyasCard.lean, 'card_holds'). Laid BY PROGRAM, IN A SANDBOX (cutbox-door.mjs). By AI agents, Wed Nov 11 2026. No macro, syntax, notation, axiom, sorry.
-/
import Derived.Test.YtgbgmjhnlmncnaaDoorRows
import GoSem.ClaimSeven
namespace Go.Proofs.YtgbgmjhnlmncnaaDoor
namespace Rows

/-- THE TIED CARD OF 'flaillaw06.NamesTells'. -/
def namesTellsCard : Claim7 := { stood := { row := namesTellsRow, standIns := [], harness := (true, "2fdda6c8779ad36719832fb35fac7b00c0c324308f3ae26d741b9ec79e1f0890"), looks := true }, kinds := [], alts := [], laidByText := true, laidKinds := [.data, .data, .data, .sentinel, .sentinel], laidTests := true, laidLooks := .later }
def NamesTellsCardSaid : Prop := Claim7.holds Tryd.pinned (.plain (OpenSpec.ofChange namesTellsSpec)) namesTellsCard

/-- THE TIED CARD OF 'flaillaw06.NamesEach'. -/
def namesEachCard : Claim7 := { stood := { row := namesEachRow, standIns := [], harness := (true, "2fdda6c8779ad36719832fb35fac7b00c0c324308f3ae26d741b9ec79e1f0890"), looks := true }, kinds := [], alts := [], laidByText := true, laidKinds := [.data, .data, .data, .sentinel, .sentinel], laidTests := true, laidLooks := .later }
def NamesEachCardSaid : Prop := Claim7.holds Tryd.pinned (.plain (OpenSpec.ofChange namesEachSpec)) namesEachCard

/-- THE TIED CARD OF 'flaillaw06.NamesShort'. -/
def namesShortCard : Claim7 := { stood := { row := namesShortRow, standIns := [], harness := (true, "2fdda6c8779ad36719832fb35fac7b00c0c324308f3ae26d741b9ec79e1f0890"), looks := true }, kinds := [], alts := [], laidByText := true, laidKinds := [.data, .data, .data, .sentinel, .sentinel], laidTests := true, laidLooks := .later }
def NamesShortCardSaid : Prop := Claim7.holds Tryd.pinned (.plain (OpenSpec.ofChange namesShortSpec)) namesShortCard

/-- THE TIED CARD OF 'flaillaw06.NamesTexts'. -/
def namesTextsCard : Claim7 := { stood := { row := namesTextsRow, standIns := [], harness := (true, "2fdda6c8779ad36719832fb35fac7b00c0c324308f3ae26d741b9ec79e1f0890"), looks := true }, kinds := [], alts := [], laidByText := true, laidKinds := [.data, .data, .data, .sentinel, .sentinel], laidTests := true, laidLooks := .later }
def NamesTextsCardSaid : Prop := Claim7.holds Tryd.pinned (.plain (OpenSpec.ofChange namesTextsSpec)) namesTextsCard

/-- THE TIED CARD OF 'flaillaw06.NamesBeyond'. -/
def namesBeyondCard : Claim7 := { stood := { row := namesBeyondRow, standIns := [], harness := (true, "2fdda6c8779ad36719832fb35fac7b00c0c324308f3ae26d741b9ec79e1f0890"), looks := true }, kinds := [], alts := [], laidByText := true, laidKinds := [.data, .data, .data, .sentinel, .sentinel], laidTests := true, laidLooks := .later }
def NamesBeyondCardSaid : Prop := Claim7.holds Tryd.pinned (.plain (OpenSpec.ofChange namesBeyondSpec)) namesBeyondCard

/-- THE SECOND FORM's CARD OF 'flaillaw06.NamesTells'. -/
def namesTellsUptoCard : Claim7 := { stood := { row := namesTellsUptoRow, standIns := [], harness := (true, "2fdda6c8779ad36719832fb35fac7b00c0c324308f3ae26d741b9ec79e1f0890"), looks := true }, kinds := [], alts := [], laidByText := true, laidKinds := [.data, .data, .data, .sentinel, .sentinel], laidTests := true, laidLooks := .later }
def NamesTellsUptoCardSaid : Prop := Claim7.holds Tryd.pinned (.plain (OpenSpec.upto namesTellsSpec)) namesTellsUptoCard

/-- THE SECOND FORM's CARD OF 'flaillaw06.NamesEach'. -/
def namesEachUptoCard : Claim7 := { stood := { row := namesEachUptoRow, standIns := [], harness := (true, "2fdda6c8779ad36719832fb35fac7b00c0c324308f3ae26d741b9ec79e1f0890"), looks := true }, kinds := [], alts := [], laidByText := true, laidKinds := [.data, .data, .data, .sentinel, .sentinel], laidTests := true, laidLooks := .later }
def NamesEachUptoCardSaid : Prop := Claim7.holds Tryd.pinned (.plain (OpenSpec.upto namesEachSpec)) namesEachUptoCard

/-- THE SECOND FORM's CARD OF 'flaillaw06.NamesShort'. -/
def namesShortUptoCard : Claim7 := { stood := { row := namesShortUptoRow, standIns := [], harness := (true, "2fdda6c8779ad36719832fb35fac7b00c0c324308f3ae26d741b9ec79e1f0890"), looks := true }, kinds := [], alts := [], laidByText := true, laidKinds := [.data, .data, .data, .sentinel, .sentinel], laidTests := true, laidLooks := .later }
def NamesShortUptoCardSaid : Prop := Claim7.holds Tryd.pinned (.plain (OpenSpec.upto namesShortSpec)) namesShortUptoCard

/-- THE SECOND FORM's CARD OF 'flaillaw06.NamesTexts'. -/
def namesTextsUptoCard : Claim7 := { stood := { row := namesTextsUptoRow, standIns := [], harness := (true, "2fdda6c8779ad36719832fb35fac7b00c0c324308f3ae26d741b9ec79e1f0890"), looks := true }, kinds := [], alts := [], laidByText := true, laidKinds := [.data, .data, .data, .sentinel, .sentinel], laidTests := true, laidLooks := .later }
def NamesTextsUptoCardSaid : Prop := Claim7.holds Tryd.pinned (.plain (OpenSpec.upto namesTextsSpec)) namesTextsUptoCard

/-- THE SECOND FORM's CARD OF 'flaillaw06.NamesBeyond'. -/
def namesBeyondUptoCard : Claim7 := { stood := { row := namesBeyondUptoRow, standIns := [], harness := (true, "2fdda6c8779ad36719832fb35fac7b00c0c324308f3ae26d741b9ec79e1f0890"), looks := true }, kinds := [], alts := [], laidByText := true, laidKinds := [.data, .data, .data, .sentinel, .sentinel], laidTests := true, laidLooks := .later }
def NamesBeyondUptoCardSaid : Prop := Claim7.holds Tryd.pinned (.plain (OpenSpec.upto namesBeyondSpec)) namesBeyondUptoCard
end Rows
end Go.Proofs.YtgbgmjhnlmncnaaDoor
