/-
  DERIVED. GIVEN WITH THE SEED: THE CARDS: each row of YthmaiolfpinfmaaDoorRows.lean that lists a variable, with what it lists TIED to the program's text (the seventh form; the later family's looks); each row that meets fmt, with fmt's text TOLD by the authors' own Lean function (tested against real Go, not proved from fmt's source: count such statements apart). THE CARD IS WHAT COUNTS. Prove the row's statement (the work); the ties are given (YthmaiolfpinfmaaDoorTie.lean); close each card by the builder's one call (the guide's Derived/Test/ToyasCard.lean, 'card_holds'). Laid BY PROGRAM, IN A SANDBOX (cutbox-door.mjs). By AI agents, Wed Nov 11 2026. No macro, syntax, notation, axiom, sorry.
-/
import Derived.Test.YthmaiolfpinfmaaDoorRows
import GoSem.ClaimSeven
namespace Go.Proofs.YthmaiolfpinfmaaDoor
namespace Rows

/-- THE TIED CARD OF 'flaillaw06.NamesEach'. -/
def namesEachCard : Claim7 := { stood := { row := namesEachRow, standIns := [], harness := (true, "ff5e4f785393c513e53bb93e3d4784783fdf78eecd004f8b9c67ebff93413b93"), looks := true }, kinds := [], alts := [], laidByText := true, laidKinds := [.data, .data, .data, .sentinel, .sentinel], laidTests := true, laidLooks := .later }
def NamesEachCardSaid : Prop := Claim7.holds Tryd.pinned (.plain (OpenSpec.ofChange namesEachSpec)) namesEachCard

/-- THE TIED CARD OF 'flaillaw07.RefNames'. -/
def refNamesCard : Claim7 := { stood := { row := refNamesRow, standIns := [], harness := (true, "ff5e4f785393c513e53bb93e3d4784783fdf78eecd004f8b9c67ebff93413b93"), looks := true }, kinds := [], alts := [], laidByText := true, laidKinds := [.data, .data, .data, .sentinel, .sentinel], laidTests := true, laidLooks := .later }
def RefNamesCardSaid : Prop := Claim7.holds Tryd.pinned (.plain (OpenSpec.ofChange refNamesSpec)) refNamesCard

/-- THE TIED CARD OF 'flaillaw07.RefOne'. -/
def refOneCard : Claim7 := { stood := { row := refOneRow, standIns := [], harness := (true, "ff5e4f785393c513e53bb93e3d4784783fdf78eecd004f8b9c67ebff93413b93"), looks := true }, kinds := [], alts := [], laidByText := true, laidKinds := [.data, .data, .data, .sentinel, .sentinel], laidTests := true, laidLooks := .later }
def RefOneCardSaid : Prop := Claim7.holds Tryd.pinned (.plain (OpenSpec.ofChange refOneSpec)) refOneCard

/-- THE TIED CARD OF 'flaillaw07.RefNumbers'. -/
def refNumbersCard : Claim7 := { stood := { row := refNumbersRow, standIns := [], harness := (true, "ff5e4f785393c513e53bb93e3d4784783fdf78eecd004f8b9c67ebff93413b93"), looks := true }, kinds := [], alts := [], laidByText := true, laidKinds := [.data, .data, .data, .sentinel, .sentinel], laidTests := true, laidLooks := .later }
def RefNumbersCardSaid : Prop := Claim7.holds Tryd.pinned (.plain (OpenSpec.ofChange refNumbersSpec)) refNumbersCard

/-- THE TIED CARD OF 'flaillaw14.TextPlain'. -/
def textPlainCard : Claim7 := { stood := { row := textPlainRow, standIns := [], harness := (true, "ff5e4f785393c513e53bb93e3d4784783fdf78eecd004f8b9c67ebff93413b93"), looks := true }, kinds := [], alts := [], laidByText := true, laidKinds := [.data, .data, .data, .sentinel, .sentinel], laidTests := true, laidLooks := .later }
def TextPlainCardSaid : Prop := Claim7.holds Tryd.pinned (.plain (OpenSpec.ofChange textPlainSpec)) textPlainCard

/-- THE TIED CARD OF 'flaillaw14.TextNext'. -/
def textNextCard : Claim7 := { stood := { row := textNextRow, standIns := [], harness := (true, "ff5e4f785393c513e53bb93e3d4784783fdf78eecd004f8b9c67ebff93413b93"), looks := true }, kinds := [], alts := [], laidByText := true, laidKinds := [.data, .data, .data, .sentinel, .sentinel], laidTests := true, laidLooks := .later }
def TextNextCardSaid : Prop := Claim7.holds Tryd.pinned (.plain (OpenSpec.ofChange textNextSpec)) textNextCard

/-- THE TIED CARD OF 'flaillaw14.TextJoins'. -/
def textJoinsCard : Claim7 := { stood := { row := textJoinsRow, standIns := [], harness := (true, "ff5e4f785393c513e53bb93e3d4784783fdf78eecd004f8b9c67ebff93413b93"), looks := true }, kinds := [], alts := [], laidByText := true, laidKinds := [.data, .data, .data, .sentinel, .sentinel], laidTests := true, laidLooks := .later }
def TextJoinsCardSaid : Prop := Claim7.holds Tryd.pinned (.plain (OpenSpec.ofChange textJoinsSpec)) textJoinsCard

/-- THE TIED CARD OF 'flaillaw14.TextKinds'. -/
def textKindsCard : Claim7 := { stood := { row := textKindsRow, standIns := [], harness := (true, "ff5e4f785393c513e53bb93e3d4784783fdf78eecd004f8b9c67ebff93413b93"), looks := true }, kinds := [], alts := [], laidByText := true, laidKinds := [.data, .data, .data, .sentinel, .sentinel], laidTests := true, laidLooks := .later }
def TextKindsCardSaid : Prop := Claim7.holds Tryd.pinned (.plain (OpenSpec.ofChange textKindsSpec)) textKindsCard

/-- THE SECOND FORM's CARD OF 'flaillaw06.NamesEach'. -/
def namesEachUptoCard : Claim7 := { stood := { row := namesEachUptoRow, standIns := [], harness := (true, "ff5e4f785393c513e53bb93e3d4784783fdf78eecd004f8b9c67ebff93413b93"), looks := true }, kinds := [], alts := [], laidByText := true, laidKinds := [.data, .data, .data, .sentinel, .sentinel], laidTests := true, laidLooks := .later }
def NamesEachUptoCardSaid : Prop := Claim7.holds Tryd.pinned (.plain (OpenSpec.upto namesEachSpec)) namesEachUptoCard

/-- THE SECOND FORM's CARD OF 'flaillaw07.RefNames'. -/
def refNamesUptoCard : Claim7 := { stood := { row := refNamesUptoRow, standIns := [], harness := (true, "ff5e4f785393c513e53bb93e3d4784783fdf78eecd004f8b9c67ebff93413b93"), looks := true }, kinds := [], alts := [], laidByText := true, laidKinds := [.data, .data, .data, .sentinel, .sentinel], laidTests := true, laidLooks := .later }
def RefNamesUptoCardSaid : Prop := Claim7.holds Tryd.pinned (.plain (OpenSpec.upto refNamesSpec)) refNamesUptoCard

/-- THE SECOND FORM's CARD OF 'flaillaw07.RefOne'. -/
def refOneUptoCard : Claim7 := { stood := { row := refOneUptoRow, standIns := [], harness := (true, "ff5e4f785393c513e53bb93e3d4784783fdf78eecd004f8b9c67ebff93413b93"), looks := true }, kinds := [], alts := [], laidByText := true, laidKinds := [.data, .data, .data, .sentinel, .sentinel], laidTests := true, laidLooks := .later }
def RefOneUptoCardSaid : Prop := Claim7.holds Tryd.pinned (.plain (OpenSpec.upto refOneSpec)) refOneUptoCard

/-- THE SECOND FORM's CARD OF 'flaillaw07.RefNumbers'. -/
def refNumbersUptoCard : Claim7 := { stood := { row := refNumbersUptoRow, standIns := [], harness := (true, "ff5e4f785393c513e53bb93e3d4784783fdf78eecd004f8b9c67ebff93413b93"), looks := true }, kinds := [], alts := [], laidByText := true, laidKinds := [.data, .data, .data, .sentinel, .sentinel], laidTests := true, laidLooks := .later }
def RefNumbersUptoCardSaid : Prop := Claim7.holds Tryd.pinned (.plain (OpenSpec.upto refNumbersSpec)) refNumbersUptoCard

/-- THE SECOND FORM's CARD OF 'flaillaw14.TextPlain'. -/
def textPlainUptoCard : Claim7 := { stood := { row := textPlainUptoRow, standIns := [], harness := (true, "ff5e4f785393c513e53bb93e3d4784783fdf78eecd004f8b9c67ebff93413b93"), looks := true }, kinds := [], alts := [], laidByText := true, laidKinds := [.data, .data, .data, .sentinel, .sentinel], laidTests := true, laidLooks := .later }
def TextPlainUptoCardSaid : Prop := Claim7.holds Tryd.pinned (.plain (OpenSpec.upto textPlainSpec)) textPlainUptoCard

/-- THE SECOND FORM's CARD OF 'flaillaw14.TextNext'. -/
def textNextUptoCard : Claim7 := { stood := { row := textNextUptoRow, standIns := [], harness := (true, "ff5e4f785393c513e53bb93e3d4784783fdf78eecd004f8b9c67ebff93413b93"), looks := true }, kinds := [], alts := [], laidByText := true, laidKinds := [.data, .data, .data, .sentinel, .sentinel], laidTests := true, laidLooks := .later }
def TextNextUptoCardSaid : Prop := Claim7.holds Tryd.pinned (.plain (OpenSpec.upto textNextSpec)) textNextUptoCard

/-- THE SECOND FORM's CARD OF 'flaillaw14.TextJoins'. -/
def textJoinsUptoCard : Claim7 := { stood := { row := textJoinsUptoRow, standIns := [], harness := (true, "ff5e4f785393c513e53bb93e3d4784783fdf78eecd004f8b9c67ebff93413b93"), looks := true }, kinds := [], alts := [], laidByText := true, laidKinds := [.data, .data, .data, .sentinel, .sentinel], laidTests := true, laidLooks := .later }
def TextJoinsUptoCardSaid : Prop := Claim7.holds Tryd.pinned (.plain (OpenSpec.upto textJoinsSpec)) textJoinsUptoCard

/-- THE SECOND FORM's CARD OF 'flaillaw14.TextKinds'. -/
def textKindsUptoCard : Claim7 := { stood := { row := textKindsUptoRow, standIns := [], harness := (true, "ff5e4f785393c513e53bb93e3d4784783fdf78eecd004f8b9c67ebff93413b93"), looks := true }, kinds := [], alts := [], laidByText := true, laidKinds := [.data, .data, .data, .sentinel, .sentinel], laidTests := true, laidLooks := .later }
def TextKindsUptoCardSaid : Prop := Claim7.holds Tryd.pinned (.plain (OpenSpec.upto textKindsSpec)) textKindsUptoCard
end Rows
end Go.Proofs.YthmaiolfpinfmaaDoor
