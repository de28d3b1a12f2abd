/-
  DERIVED. GIVEN WITH THE SEED: THE CARDS: each row of YtodommehhcfccaaDoorRows.lean that lists a variable, with what it lists TIED to the program's text (the seventh form; the later family's looks); each row that meets fmt, with fmt's text TOLD by the authors' own Lean function (tested against real Go, not proved from fmt's source: count such statements apart). THE CARD IS WHAT COUNTS. Prove the row's statement (the work); the ties are given (YtodommehhcfccaaDoorTie.lean); close each card by the builder's one call (the guide's Derived/Test/ToyasCard.lean, 'card_holds'). Laid BY PROGRAM, IN A SANDBOX (cutbox-door.mjs). By AI agents, Wed Nov 11 2026. No macro, syntax, notation, axiom, sorry.
-/
import Derived.Test.YtodommehhcfccaaDoorRows
import GoSem.ClaimSeven
namespace Go.Proofs.YtodommehhcfccaaDoor
namespace Rows

/-- THE TIED CARD OF 'flaillaw08.AttrsUnlike'. -/
def attrsUnlikeCard : Claim7 := { stood := { row := attrsUnlikeRow, standIns := [], harness := (true, "517ae7741ae633e54c092715d1a39e9d6e74ef12b3767f2067c84c677463eb46"), looks := true }, kinds := [], alts := [], laidByText := true, laidKinds := [.data, .data, .data, .data, .sentinel, .sentinel, .pinned], laidTests := true, laidLooks := .later }
def AttrsUnlikeCardSaid : Prop := Claim7.holds Tryd.pinned (.plain (OpenSpec.ofChange attrsUnlikeSpec)) attrsUnlikeCard

/-- THE TIED CARD OF 'flaillaw08.AttrsWritten'. -/
def attrsWrittenCard : Claim7 := { stood := { row := attrsWrittenRow, standIns := [], harness := (true, "517ae7741ae633e54c092715d1a39e9d6e74ef12b3767f2067c84c677463eb46"), looks := true }, kinds := [], alts := [], laidByText := true, laidKinds := [.data, .data, .data, .data, .sentinel, .sentinel, .pinned], laidTests := true, laidLooks := .later }
def AttrsWrittenCardSaid : Prop := Claim7.holds Tryd.pinned (.plain (OpenSpec.ofChange attrsWrittenSpec)) attrsWrittenCard

/-- THE TIED CARD OF 'flaillaw08.AttrsBlanks'. -/
def attrsBlanksCard : Claim7 := { stood := { row := attrsBlanksRow, standIns := [], harness := (true, "517ae7741ae633e54c092715d1a39e9d6e74ef12b3767f2067c84c677463eb46"), looks := true }, kinds := [], alts := [], laidByText := true, laidKinds := [.data, .data, .data, .data, .sentinel, .sentinel, .pinned], laidTests := true, laidLooks := .later }
def AttrsBlanksCardSaid : Prop := Claim7.holds Tryd.pinned (.plain (OpenSpec.ofChange attrsBlanksSpec)) attrsBlanksCard

/-- THE TIED CARD OF 'flaillaw08.AttrsPlain'. -/
def attrsPlainCard : Claim7 := { stood := { row := attrsPlainRow, standIns := [], harness := (true, "517ae7741ae633e54c092715d1a39e9d6e74ef12b3767f2067c84c677463eb46"), looks := true }, kinds := [], alts := [], laidByText := true, laidKinds := [.data, .data, .data, .data, .sentinel, .sentinel, .pinned], laidTests := true, laidLooks := .later }
def AttrsPlainCardSaid : Prop := Claim7.holds Tryd.pinned (.plain (OpenSpec.ofChange attrsPlainSpec)) attrsPlainCard

/-- THE TIED CARD OF 'flaillaw08.AttrsClean'. -/
def attrsCleanCard : Claim7 := { stood := { row := attrsCleanRow, standIns := [], harness := (true, "517ae7741ae633e54c092715d1a39e9d6e74ef12b3767f2067c84c677463eb46"), looks := true }, kinds := [], alts := [], laidByText := true, laidKinds := [.data, .data, .data, .data, .sentinel, .sentinel, .pinned], laidTests := true, laidLooks := .later }
def AttrsCleanCardSaid : Prop := Claim7.holds Tryd.pinned (.plain (OpenSpec.ofChange attrsCleanSpec)) attrsCleanCard

/-- THE TIED CARD OF 'flaillaw09.TagNames'. -/
def tagNamesCard : Claim7 := { stood := { row := tagNamesRow, standIns := [], harness := (true, "517ae7741ae633e54c092715d1a39e9d6e74ef12b3767f2067c84c677463eb46"), looks := true }, kinds := [], alts := [], laidByText := true, laidKinds := [.data, .data, .data, .data, .sentinel, .sentinel, .pinned], laidTests := true, laidLooks := .later }
def TagNamesCardSaid : Prop := Claim7.holds Tryd.pinned (.plain (OpenSpec.ofChange tagNamesSpec)) tagNamesCard

/-- THE TIED CARD OF 'flaillaw09.TagWritten'. -/
def tagWrittenCard : Claim7 := { stood := { row := tagWrittenRow, standIns := [], harness := (true, "517ae7741ae633e54c092715d1a39e9d6e74ef12b3767f2067c84c677463eb46"), looks := true }, kinds := [], alts := [], laidByText := true, laidKinds := [.data, .data, .data, .data, .sentinel, .sentinel, .pinned], laidTests := true, laidLooks := .later }
def TagWrittenCardSaid : Prop := Claim7.holds Tryd.pinned (.plain (OpenSpec.ofChange tagWrittenSpec)) tagWrittenCard

/-- THE TIED CARD OF 'flaillaw09.TagRest'. -/
def tagRestCard : Claim7 := { stood := { row := tagRestRow, standIns := [], harness := (true, "517ae7741ae633e54c092715d1a39e9d6e74ef12b3767f2067c84c677463eb46"), looks := true }, kinds := [], alts := [], laidByText := true, laidKinds := [.data, .data, .data, .data, .sentinel, .sentinel, .pinned], laidTests := true, laidLooks := .later }
def TagRestCardSaid : Prop := Claim7.holds Tryd.pinned (.plain (OpenSpec.ofChange tagRestSpec)) tagRestCard

/-- THE TIED CARD OF 'flaillaw09.TagCase'. -/
def tagCaseCard : Claim7 := { stood := { row := tagCaseRow, standIns := [], harness := (true, "517ae7741ae633e54c092715d1a39e9d6e74ef12b3767f2067c84c677463eb46"), looks := true }, kinds := [], alts := [], laidByText := true, laidKinds := [.data, .data, .data, .data, .sentinel, .sentinel, .pinned], laidTests := true, laidLooks := .later }
def TagCaseCardSaid : Prop := Claim7.holds Tryd.pinned (.plain (OpenSpec.ofChange tagCaseSpec)) tagCaseCard

/-- THE SECOND FORM's CARD OF 'flaillaw08.AttrsUnlike'. -/
def attrsUnlikeUptoCard : Claim7 := { stood := { row := attrsUnlikeUptoRow, standIns := [], harness := (true, "517ae7741ae633e54c092715d1a39e9d6e74ef12b3767f2067c84c677463eb46"), looks := true }, kinds := [], alts := [], laidByText := true, laidKinds := [.data, .data, .data, .data, .sentinel, .sentinel, .pinned], laidTests := true, laidLooks := .later }
def AttrsUnlikeUptoCardSaid : Prop := Claim7.holds Tryd.pinned (.plain (OpenSpec.upto attrsUnlikeSpec)) attrsUnlikeUptoCard

/-- THE SECOND FORM's CARD OF 'flaillaw08.AttrsWritten'. -/
def attrsWrittenUptoCard : Claim7 := { stood := { row := attrsWrittenUptoRow, standIns := [], harness := (true, "517ae7741ae633e54c092715d1a39e9d6e74ef12b3767f2067c84c677463eb46"), looks := true }, kinds := [], alts := [], laidByText := true, laidKinds := [.data, .data, .data, .data, .sentinel, .sentinel, .pinned], laidTests := true, laidLooks := .later }
def AttrsWrittenUptoCardSaid : Prop := Claim7.holds Tryd.pinned (.plain (OpenSpec.upto attrsWrittenSpec)) attrsWrittenUptoCard

/-- THE SECOND FORM's CARD OF 'flaillaw08.AttrsBlanks'. -/
def attrsBlanksUptoCard : Claim7 := { stood := { row := attrsBlanksUptoRow, standIns := [], harness := (true, "517ae7741ae633e54c092715d1a39e9d6e74ef12b3767f2067c84c677463eb46"), looks := true }, kinds := [], alts := [], laidByText := true, laidKinds := [.data, .data, .data, .data, .sentinel, .sentinel, .pinned], laidTests := true, laidLooks := .later }
def AttrsBlanksUptoCardSaid : Prop := Claim7.holds Tryd.pinned (.plain (OpenSpec.upto attrsBlanksSpec)) attrsBlanksUptoCard

/-- THE SECOND FORM's CARD OF 'flaillaw08.AttrsPlain'. -/
def attrsPlainUptoCard : Claim7 := { stood := { row := attrsPlainUptoRow, standIns := [], harness := (true, "517ae7741ae633e54c092715d1a39e9d6e74ef12b3767f2067c84c677463eb46"), looks := true }, kinds := [], alts := [], laidByText := true, laidKinds := [.data, .data, .data, .data, .sentinel, .sentinel, .pinned], laidTests := true, laidLooks := .later }
def AttrsPlainUptoCardSaid : Prop := Claim7.holds Tryd.pinned (.plain (OpenSpec.upto attrsPlainSpec)) attrsPlainUptoCard

/-- THE SECOND FORM's CARD OF 'flaillaw08.AttrsClean'. -/
def attrsCleanUptoCard : Claim7 := { stood := { row := attrsCleanUptoRow, standIns := [], harness := (true, "517ae7741ae633e54c092715d1a39e9d6e74ef12b3767f2067c84c677463eb46"), looks := true }, kinds := [], alts := [], laidByText := true, laidKinds := [.data, .data, .data, .data, .sentinel, .sentinel, .pinned], laidTests := true, laidLooks := .later }
def AttrsCleanUptoCardSaid : Prop := Claim7.holds Tryd.pinned (.plain (OpenSpec.upto attrsCleanSpec)) attrsCleanUptoCard

/-- THE SECOND FORM's CARD OF 'flaillaw09.TagNames'. -/
def tagNamesUptoCard : Claim7 := { stood := { row := tagNamesUptoRow, standIns := [], harness := (true, "517ae7741ae633e54c092715d1a39e9d6e74ef12b3767f2067c84c677463eb46"), looks := true }, kinds := [], alts := [], laidByText := true, laidKinds := [.data, .data, .data, .data, .sentinel, .sentinel, .pinned], laidTests := true, laidLooks := .later }
def TagNamesUptoCardSaid : Prop := Claim7.holds Tryd.pinned (.plain (OpenSpec.upto tagNamesSpec)) tagNamesUptoCard

/-- THE SECOND FORM's CARD OF 'flaillaw09.TagWritten'. -/
def tagWrittenUptoCard : Claim7 := { stood := { row := tagWrittenUptoRow, standIns := [], harness := (true, "517ae7741ae633e54c092715d1a39e9d6e74ef12b3767f2067c84c677463eb46"), looks := true }, kinds := [], alts := [], laidByText := true, laidKinds := [.data, .data, .data, .data, .sentinel, .sentinel, .pinned], laidTests := true, laidLooks := .later }
def TagWrittenUptoCardSaid : Prop := Claim7.holds Tryd.pinned (.plain (OpenSpec.upto tagWrittenSpec)) tagWrittenUptoCard

/-- THE SECOND FORM's CARD OF 'flaillaw09.TagRest'. -/
def tagRestUptoCard : Claim7 := { stood := { row := tagRestUptoRow, standIns := [], harness := (true, "517ae7741ae633e54c092715d1a39e9d6e74ef12b3767f2067c84c677463eb46"), looks := true }, kinds := [], alts := [], laidByText := true, laidKinds := [.data, .data, .data, .data, .sentinel, .sentinel, .pinned], laidTests := true, laidLooks := .later }
def TagRestUptoCardSaid : Prop := Claim7.holds Tryd.pinned (.plain (OpenSpec.upto tagRestSpec)) tagRestUptoCard

/-- THE SECOND FORM's CARD OF 'flaillaw09.TagCase'. -/
def tagCaseUptoCard : Claim7 := { stood := { row := tagCaseUptoRow, standIns := [], harness := (true, "517ae7741ae633e54c092715d1a39e9d6e74ef12b3767f2067c84c677463eb46"), looks := true }, kinds := [], alts := [], laidByText := true, laidKinds := [.data, .data, .data, .data, .sentinel, .sentinel, .pinned], laidTests := true, laidLooks := .later }
def TagCaseUptoCardSaid : Prop := Claim7.holds Tryd.pinned (.plain (OpenSpec.upto tagCaseSpec)) tagCaseUptoCard
end Rows
end Go.Proofs.YtodommehhcfccaaDoor
