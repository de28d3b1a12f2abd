/-
  DERIVED. GIVEN WITH THE SEED: THE CARDS: each row of YtpfnfndnblpaaaaDoorRows.lean that lists a variable, with what it lists TIED to the program's text (the seventh form; the later family's looks); each row that meets fmt, with fmt's text TOLD by the authors' own Lean function (tested against real Go, not proved from fmt's source: count such statements apart). THE CARD IS WHAT COUNTS. Prove the row's statement (the work); the ties are given (YtpfnfndnblpaaaaDoorTie.lean); close each card by the builder's one call (the guide's Derived/Test/ToyasCard.lean, 'card_holds'). Laid BY PROGRAM, IN A SANDBOX (cutbox-door.mjs). By AI agents, Wed Nov 11 2026. No macro, syntax, notation, axiom, sorry.
-/
import Derived.Test.YtpfnfndnblpaaaaDoorRows
import GoSem.ClaimSeven
namespace Go.Proofs.YtpfnfndnblpaaaaDoor
namespace Rows

/-- THE TIED CARD OF 'flaillaw12.RawFirst'. -/
def rawFirstCard : Claim7 := { stood := { row := rawFirstRow, standIns := [], harness := (true, "467da767f1f10e1c20dc2f3f86de288ab22c23999fc1d9fa54114a33b9e19843"), looks := true }, kinds := [], alts := [], laidByText := true, laidKinds := [.data, .data, .data, .data, .sentinel, .sentinel, .pinned], laidTests := true, laidLooks := .later }
def RawFirstCardSaid : Prop := Claim7.holds Tryd.pinned (.plain (OpenSpec.ofChange rawFirstSpec)) rawFirstCard

/-- THE TIED CARD OF 'flaillaw12.RawWritten'. -/
def rawWrittenCard : Claim7 := { stood := { row := rawWrittenRow, standIns := [], harness := (true, "467da767f1f10e1c20dc2f3f86de288ab22c23999fc1d9fa54114a33b9e19843"), looks := true }, kinds := [], alts := [], laidByText := true, laidKinds := [.data, .data, .data, .data, .sentinel, .sentinel, .pinned], laidTests := true, laidLooks := .later }
def RawWrittenCardSaid : Prop := Claim7.holds Tryd.pinned (.plain (OpenSpec.ofChange rawWrittenSpec)) rawWrittenCard

/-- THE TIED CARD OF 'flaillaw12.RawRest'. -/
def rawRestCard : Claim7 := { stood := { row := rawRestRow, standIns := [], harness := (true, "467da767f1f10e1c20dc2f3f86de288ab22c23999fc1d9fa54114a33b9e19843"), looks := true }, kinds := [], alts := [], laidByText := true, laidKinds := [.data, .data, .data, .data, .sentinel, .sentinel, .pinned], laidTests := true, laidLooks := .later }
def RawRestCardSaid : Prop := Claim7.holds Tryd.pinned (.plain (OpenSpec.ofChange rawRestSpec)) rawRestCard

/-- THE TIED CARD OF 'flaillaw12.RawCase'. -/
def rawCaseCard : Claim7 := { stood := { row := rawCaseRow, standIns := [], harness := (true, "467da767f1f10e1c20dc2f3f86de288ab22c23999fc1d9fa54114a33b9e19843"), looks := true }, kinds := [], alts := [], laidByText := true, laidKinds := [.data, .data, .data, .data, .sentinel, .sentinel, .pinned], laidTests := true, laidLooks := .later }
def RawCaseCardSaid : Prop := Claim7.holds Tryd.pinned (.plain (OpenSpec.ofChange rawCaseSpec)) rawCaseCard

/-- THE TIED CARD OF 'flaillaw08.AttrsUnlike'. -/
def attrsUnlikeCard : Claim7 := { stood := { row := attrsUnlikeRow, standIns := [], harness := (true, "467da767f1f10e1c20dc2f3f86de288ab22c23999fc1d9fa54114a33b9e19843"), looks := true }, kinds := [], alts := [], laidByText := true, laidKinds := [.data, .data, .data, .data, .sentinel, .sentinel, .pinned], laidTests := true, laidLooks := .later }
def AttrsUnlikeCardSaid : Prop := Claim7.holds Tryd.pinned (.plain (OpenSpec.ofChange attrsUnlikeSpec)) attrsUnlikeCard

/-- THE TIED CARD OF 'flaillaw08.AttrsWritten'. -/
def attrsWrittenCard : Claim7 := { stood := { row := attrsWrittenRow, standIns := [], harness := (true, "467da767f1f10e1c20dc2f3f86de288ab22c23999fc1d9fa54114a33b9e19843"), looks := true }, kinds := [], alts := [], laidByText := true, laidKinds := [.data, .data, .data, .data, .sentinel, .sentinel, .pinned], laidTests := true, laidLooks := .later }
def AttrsWrittenCardSaid : Prop := Claim7.holds Tryd.pinned (.plain (OpenSpec.ofChange attrsWrittenSpec)) attrsWrittenCard

/-- THE TIED CARD OF 'flaillaw08.AttrsBlanks'. -/
def attrsBlanksCard : Claim7 := { stood := { row := attrsBlanksRow, standIns := [], harness := (true, "467da767f1f10e1c20dc2f3f86de288ab22c23999fc1d9fa54114a33b9e19843"), looks := true }, kinds := [], alts := [], laidByText := true, laidKinds := [.data, .data, .data, .data, .sentinel, .sentinel, .pinned], laidTests := true, laidLooks := .later }
def AttrsBlanksCardSaid : Prop := Claim7.holds Tryd.pinned (.plain (OpenSpec.ofChange attrsBlanksSpec)) attrsBlanksCard

/-- THE TIED CARD OF 'flaillaw08.AttrsPlain'. -/
def attrsPlainCard : Claim7 := { stood := { row := attrsPlainRow, standIns := [], harness := (true, "467da767f1f10e1c20dc2f3f86de288ab22c23999fc1d9fa54114a33b9e19843"), looks := true }, kinds := [], alts := [], laidByText := true, laidKinds := [.data, .data, .data, .data, .sentinel, .sentinel, .pinned], laidTests := true, laidLooks := .later }
def AttrsPlainCardSaid : Prop := Claim7.holds Tryd.pinned (.plain (OpenSpec.ofChange attrsPlainSpec)) attrsPlainCard

/-- THE TIED CARD OF 'flaillaw08.AttrsClean'. -/
def attrsCleanCard : Claim7 := { stood := { row := attrsCleanRow, standIns := [], harness := (true, "467da767f1f10e1c20dc2f3f86de288ab22c23999fc1d9fa54114a33b9e19843"), looks := true }, kinds := [], alts := [], laidByText := true, laidKinds := [.data, .data, .data, .data, .sentinel, .sentinel, .pinned], laidTests := true, laidLooks := .later }
def AttrsCleanCardSaid : Prop := Claim7.holds Tryd.pinned (.plain (OpenSpec.ofChange attrsCleanSpec)) attrsCleanCard

/-- THE SECOND FORM's CARD OF 'flaillaw12.RawFirst'. -/
def rawFirstUptoCard : Claim7 := { stood := { row := rawFirstUptoRow, standIns := [], harness := (true, "467da767f1f10e1c20dc2f3f86de288ab22c23999fc1d9fa54114a33b9e19843"), looks := true }, kinds := [], alts := [], laidByText := true, laidKinds := [.data, .data, .data, .data, .sentinel, .sentinel, .pinned], laidTests := true, laidLooks := .later }
def RawFirstUptoCardSaid : Prop := Claim7.holds Tryd.pinned (.plain (OpenSpec.upto rawFirstSpec)) rawFirstUptoCard

/-- THE SECOND FORM's CARD OF 'flaillaw12.RawWritten'. -/
def rawWrittenUptoCard : Claim7 := { stood := { row := rawWrittenUptoRow, standIns := [], harness := (true, "467da767f1f10e1c20dc2f3f86de288ab22c23999fc1d9fa54114a33b9e19843"), looks := true }, kinds := [], alts := [], laidByText := true, laidKinds := [.data, .data, .data, .data, .sentinel, .sentinel, .pinned], laidTests := true, laidLooks := .later }
def RawWrittenUptoCardSaid : Prop := Claim7.holds Tryd.pinned (.plain (OpenSpec.upto rawWrittenSpec)) rawWrittenUptoCard

/-- THE SECOND FORM's CARD OF 'flaillaw12.RawRest'. -/
def rawRestUptoCard : Claim7 := { stood := { row := rawRestUptoRow, standIns := [], harness := (true, "467da767f1f10e1c20dc2f3f86de288ab22c23999fc1d9fa54114a33b9e19843"), looks := true }, kinds := [], alts := [], laidByText := true, laidKinds := [.data, .data, .data, .data, .sentinel, .sentinel, .pinned], laidTests := true, laidLooks := .later }
def RawRestUptoCardSaid : Prop := Claim7.holds Tryd.pinned (.plain (OpenSpec.upto rawRestSpec)) rawRestUptoCard

/-- THE SECOND FORM's CARD OF 'flaillaw12.RawCase'. -/
def rawCaseUptoCard : Claim7 := { stood := { row := rawCaseUptoRow, standIns := [], harness := (true, "467da767f1f10e1c20dc2f3f86de288ab22c23999fc1d9fa54114a33b9e19843"), looks := true }, kinds := [], alts := [], laidByText := true, laidKinds := [.data, .data, .data, .data, .sentinel, .sentinel, .pinned], laidTests := true, laidLooks := .later }
def RawCaseUptoCardSaid : Prop := Claim7.holds Tryd.pinned (.plain (OpenSpec.upto rawCaseSpec)) rawCaseUptoCard

/-- THE SECOND FORM's CARD OF 'flaillaw08.AttrsUnlike'. -/
def attrsUnlikeUptoCard : Claim7 := { stood := { row := attrsUnlikeUptoRow, standIns := [], harness := (true, "467da767f1f10e1c20dc2f3f86de288ab22c23999fc1d9fa54114a33b9e19843"), looks := true }, kinds := [], alts := [], laidByText := true, laidKinds := [.data, .data, .data, .data, .sentinel, .sentinel, .pinned], laidTests := true, laidLooks := .later }
def AttrsUnlikeUptoCardSaid : Prop := Claim7.holds Tryd.pinned (.plain (OpenSpec.upto attrsUnlikeSpec)) attrsUnlikeUptoCard

/-- THE SECOND FORM's CARD OF 'flaillaw08.AttrsWritten'. -/
def attrsWrittenUptoCard : Claim7 := { stood := { row := attrsWrittenUptoRow, standIns := [], harness := (true, "467da767f1f10e1c20dc2f3f86de288ab22c23999fc1d9fa54114a33b9e19843"), looks := true }, kinds := [], alts := [], laidByText := true, laidKinds := [.data, .data, .data, .data, .sentinel, .sentinel, .pinned], laidTests := true, laidLooks := .later }
def AttrsWrittenUptoCardSaid : Prop := Claim7.holds Tryd.pinned (.plain (OpenSpec.upto attrsWrittenSpec)) attrsWrittenUptoCard

/-- THE SECOND FORM's CARD OF 'flaillaw08.AttrsBlanks'. -/
def attrsBlanksUptoCard : Claim7 := { stood := { row := attrsBlanksUptoRow, standIns := [], harness := (true, "467da767f1f10e1c20dc2f3f86de288ab22c23999fc1d9fa54114a33b9e19843"), looks := true }, kinds := [], alts := [], laidByText := true, laidKinds := [.data, .data, .data, .data, .sentinel, .sentinel, .pinned], laidTests := true, laidLooks := .later }
def AttrsBlanksUptoCardSaid : Prop := Claim7.holds Tryd.pinned (.plain (OpenSpec.upto attrsBlanksSpec)) attrsBlanksUptoCard

/-- THE SECOND FORM's CARD OF 'flaillaw08.AttrsPlain'. -/
def attrsPlainUptoCard : Claim7 := { stood := { row := attrsPlainUptoRow, standIns := [], harness := (true, "467da767f1f10e1c20dc2f3f86de288ab22c23999fc1d9fa54114a33b9e19843"), looks := true }, kinds := [], alts := [], laidByText := true, laidKinds := [.data, .data, .data, .data, .sentinel, .sentinel, .pinned], laidTests := true, laidLooks := .later }
def AttrsPlainUptoCardSaid : Prop := Claim7.holds Tryd.pinned (.plain (OpenSpec.upto attrsPlainSpec)) attrsPlainUptoCard

/-- THE SECOND FORM's CARD OF 'flaillaw08.AttrsClean'. -/
def attrsCleanUptoCard : Claim7 := { stood := { row := attrsCleanUptoRow, standIns := [], harness := (true, "467da767f1f10e1c20dc2f3f86de288ab22c23999fc1d9fa54114a33b9e19843"), looks := true }, kinds := [], alts := [], laidByText := true, laidKinds := [.data, .data, .data, .data, .sentinel, .sentinel, .pinned], laidTests := true, laidLooks := .later }
def AttrsCleanUptoCardSaid : Prop := Claim7.holds Tryd.pinned (.plain (OpenSpec.upto attrsCleanSpec)) attrsCleanUptoCard
end Rows
end Go.Proofs.YtpfnfndnblpaaaaDoor
