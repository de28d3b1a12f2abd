/-
  No cell of these rows narrows 'for every input' (looked for: loops, veiled, ifaces, maps, wideKeys, modest, calm, conditions, laid).
  DERIVED. THE GIVEN ROWS OF THIS SEAT. 5 by the template 'for every input the law returns true; each argument reads behind the call as it read before'; 0 by the template 'total and deterministic' (their statements: YtkcojbjnnonopaaTotals.lean).
  GIVEN WITH THE SEED: the statements are not yours to turn. If you find one false, say at which input.
  Laid BY PROGRAM, IN A SANDBOX (cutbox-rows.mjs): the forced cells as the released guide's own fill.sh prints them over the translation 663ed6442a65cce7… (all of the seat's roots in one cut). By AI agents, Wed Nov 11 2026. No macro, syntax, notation, axiom, sorry.
-/
import Derived.Test.YtkcojbjnnonopaaChecked
import GoSem.Claim
import GoSem.ClaimJoined
import GoSem.ClaimMapViews
import Derived.JoinedTies
import Derived.KernelRfl
namespace Go.Proofs.Ytkcojbjnnonopaa
/- THE CELL 'sum', in the pinned program and in every row, IS THE sha256 OF THE DUMP (.gsa) THAT YtkcojbjnnonopaaProg.lean LOADS. Nothing in Lean hashes anything: it is a label: what it is worth is what the hold of that sum in a sandbox is worth. -/
noncomputable def Try.pinned : Pinned := { name := "ytkcojbjnnonopaa", sum := "663ed6442a65cce7d63b74172da181f983700ea17977108823504d8ae6ea6b00", checked := Try.checked }
namespace Rows
def none {H : Type} : Left H := { results := [], args := [] }

/-- 'flaillaw05.SearchTells': WHATEVER THE INPUT: true; the input reads as it did. -/
def searchTellsSpec : ChangeSpec := { name := "searchTells", fn := fun _ => fun
  | [d1, d2, d3, d4, d5] => { results := [.lit (.bool true)], args := [d1, d2, d3, d4, d5] }
  | _ => none }
def searchTellsRow : OpenClaim := { program := "ytkcojbjnnonopaa", sum := "663ed6442a65cce7d63b74172da181f983700ea17977108823504d8ae6ea6b00", func := "flail/flaillaw05.SearchTells", spec := "searchTells", inPlace := ["internal/bytealg.IndexByteString", "internal/bytealg.IndexString"], named := ["internal/bytealg.MaxLen"], apart := false }
def SearchTellsSaid : Prop := searchTellsRow.holds Try.pinned (OpenSpec.ofChange searchTellsSpec)

/-- ITS FALSE NEIGHBOUR: 'it returns false'. Refute it at one input. -/
def searchTellsWrong : ChangeSpec := { name := "searchTells", fn := fun _ => fun
  | [d1, d2, d3, d4, d5] => { results := [.lit (.bool false)], args := [d1, d2, d3, d4, d5] }
  | _ => none }
def SearchTellsWrongFalsely : Prop := searchTellsRow.holds Try.pinned (OpenSpec.ofChange searchTellsWrong)

/-- 'flaillaw05.SearchEach': WHATEVER THE INPUT: true; the input reads as it did. -/
def searchEachSpec : ChangeSpec := { name := "searchEach", fn := fun _ => fun
  | [d1, d2] => { results := [.lit (.bool true)], args := [d1, d2] }
  | _ => none }
def searchEachRow : OpenClaim := { program := "ytkcojbjnnonopaa", sum := "663ed6442a65cce7d63b74172da181f983700ea17977108823504d8ae6ea6b00", func := "flail/flaillaw05.SearchEach", spec := "searchEach", inPlace := ["internal/bytealg.IndexByteString", "internal/bytealg.IndexString"], named := ["internal/bytealg.MaxLen"], apart := false }
def SearchEachSaid : Prop := searchEachRow.holds Try.pinned (OpenSpec.ofChange searchEachSpec)

/-- ITS FALSE NEIGHBOUR: 'it returns false'. Refute it at one input. -/
def searchEachWrong : ChangeSpec := { name := "searchEach", fn := fun _ => fun
  | [d1, d2] => { results := [.lit (.bool false)], args := [d1, d2] }
  | _ => none }
def SearchEachWrongFalsely : Prop := searchEachRow.holds Try.pinned (OpenSpec.ofChange searchEachWrong)

/-- 'flaillaw05.SearchLongest': WHATEVER THE INPUT: true; the input reads as it did. -/
def searchLongestSpec : ChangeSpec := { name := "searchLongest", fn := fun _ => fun
  | [d1, d2, d3, d4] => { results := [.lit (.bool true)], args := [d1, d2, d3, d4] }
  | _ => none }
def searchLongestRow : OpenClaim := { program := "ytkcojbjnnonopaa", sum := "663ed6442a65cce7d63b74172da181f983700ea17977108823504d8ae6ea6b00", func := "flail/flaillaw05.SearchLongest", spec := "searchLongest", inPlace := ["internal/bytealg.IndexByteString", "internal/bytealg.IndexString"], named := ["internal/bytealg.MaxLen"], apart := false }
def SearchLongestSaid : Prop := searchLongestRow.holds Try.pinned (OpenSpec.ofChange searchLongestSpec)

/-- ITS FALSE NEIGHBOUR: 'it returns false'. Refute it at one input. -/
def searchLongestWrong : ChangeSpec := { name := "searchLongest", fn := fun _ => fun
  | [d1, d2, d3, d4] => { results := [.lit (.bool false)], args := [d1, d2, d3, d4] }
  | _ => none }
def SearchLongestWrongFalsely : Prop := searchLongestRow.holds Try.pinned (OpenSpec.ofChange searchLongestWrong)

/-- 'flaillaw05.SearchNone': WHATEVER THE INPUT: true; the input reads as it did. -/
def searchNoneSpec : ChangeSpec := { name := "searchNone", fn := fun _ => fun
  | [d1, d2, d3, d4, d5] => { results := [.lit (.bool true)], args := [d1, d2, d3, d4, d5] }
  | _ => none }
def searchNoneRow : OpenClaim := { program := "ytkcojbjnnonopaa", sum := "663ed6442a65cce7d63b74172da181f983700ea17977108823504d8ae6ea6b00", func := "flail/flaillaw05.SearchNone", spec := "searchNone", inPlace := ["internal/bytealg.IndexByteString", "internal/bytealg.IndexString"], named := ["internal/bytealg.MaxLen"], apart := false }
def SearchNoneSaid : Prop := searchNoneRow.holds Try.pinned (OpenSpec.ofChange searchNoneSpec)

/-- ITS FALSE NEIGHBOUR: 'it returns false'. Refute it at one input. -/
def searchNoneWrong : ChangeSpec := { name := "searchNone", fn := fun _ => fun
  | [d1, d2, d3, d4, d5] => { results := [.lit (.bool false)], args := [d1, d2, d3, d4, d5] }
  | _ => none }
def SearchNoneWrongFalsely : Prop := searchNoneRow.holds Try.pinned (OpenSpec.ofChange searchNoneWrong)

/-- 'flaillaw05.SearchBounds': WHATEVER THE INPUT: true; the input reads as it did. -/
def searchBoundsSpec : ChangeSpec := { name := "searchBounds", fn := fun _ => fun
  | [d1, d2, d3, d4] => { results := [.lit (.bool true)], args := [d1, d2, d3, d4] }
  | _ => none }
def searchBoundsRow : OpenClaim := { program := "ytkcojbjnnonopaa", sum := "663ed6442a65cce7d63b74172da181f983700ea17977108823504d8ae6ea6b00", func := "flail/flaillaw05.SearchBounds", spec := "searchBounds", inPlace := ["internal/bytealg.IndexByteString", "internal/bytealg.IndexString"], named := ["internal/bytealg.MaxLen"], apart := false }
def SearchBoundsSaid : Prop := searchBoundsRow.holds Try.pinned (OpenSpec.ofChange searchBoundsSpec)

/-- ITS FALSE NEIGHBOUR: 'it returns false'. Refute it at one input. -/
def searchBoundsWrong : ChangeSpec := { name := "searchBounds", fn := fun _ => fun
  | [d1, d2, d3, d4] => { results := [.lit (.bool false)], args := [d1, d2, d3, d4] }
  | _ => none }
def SearchBoundsWrongFalsely : Prop := searchBoundsRow.holds Try.pinned (OpenSpec.ofChange searchBoundsWrong)

/- THE SECOND FORM. 'bulk': how many values and letters a reading holds, each counted each time it is reached (what is shared counts as often as it is met; a slice's spare places count too). A statement '..UptoSaid' is the law's where the arguments, and the package variables that the reading takes, are together of bulk at most 1048576: NARROWER than '..Said'. Prove '..Said' where nothing that the law and all that it calls make is longer than what came in: it says more and counts as full. Else prove '..UptoSaid'. A law counts once. -/
mutual
def uptoBulk {H : Type} : DataW H → Nat
  | .lit (.string bytes) => bytes.length + 1
  | .lit _ => 1
  | .nil => 1
  | .ptr d => uptoBulk d + 1
  | .slice elems spare => uptoBulkAll elems + uptoBulkAll spare + 1
  | .agg parts => uptoBulkAll parts + 1
  | .iface _ d => uptoBulk d + 1
  | .map entries => uptoBulkEntries entries + 1
  | .held _ => 1
def uptoBulkAll {H : Type} : List (DataW H) → Nat
  | [] => 0
  | d :: r => uptoBulk d + uptoBulkAll r
def uptoBulkEntries {H : Type} : List (Lit × DataW H) → Nat
  | [] => 0
  | x :: r => uptoBulkEntry x + uptoBulkEntries r
def uptoBulkEntry {H : Type} : Lit × DataW H → Nat
  | (.string bytes, d) => bytes.length + uptoBulk d + 1
  | (_, d) => uptoBulk d + 1
 end
def uptoSmall : (H : Type) → List (DataW H) → Bool := fun _ ds => decide (uptoBulkAll ds ≤ 1048576)
def OpenSpec.upto (s : _root_.Go.ChangeSpec) : _root_.Go.OpenSpec := { _root_.Go.OpenSpec.ofChange s with cond := some uptoSmall }

/-- 'flaillaw05.SearchTells', WHERE WHAT IT READS IS OF BULK AT MOST 1048576: true; the input reads as it did. -/
def searchTellsUptoRow : OpenClaim := { program := "ytkcojbjnnonopaa", sum := "663ed6442a65cce7d63b74172da181f983700ea17977108823504d8ae6ea6b00", func := "flail/flaillaw05.SearchTells", spec := "searchTells", inPlace := ["internal/bytealg.IndexByteString", "internal/bytealg.IndexString"], named := ["internal/bytealg.MaxLen"], apart := false, narrowed := true }
def SearchTellsUptoSaid : Prop := searchTellsUptoRow.holds Try.pinned (OpenSpec.upto searchTellsSpec)

/-- 'flaillaw05.SearchEach', WHERE WHAT IT READS IS OF BULK AT MOST 1048576: true; the input reads as it did. -/
def searchEachUptoRow : OpenClaim := { program := "ytkcojbjnnonopaa", sum := "663ed6442a65cce7d63b74172da181f983700ea17977108823504d8ae6ea6b00", func := "flail/flaillaw05.SearchEach", spec := "searchEach", inPlace := ["internal/bytealg.IndexByteString", "internal/bytealg.IndexString"], named := ["internal/bytealg.MaxLen"], apart := false, narrowed := true }
def SearchEachUptoSaid : Prop := searchEachUptoRow.holds Try.pinned (OpenSpec.upto searchEachSpec)

/-- 'flaillaw05.SearchLongest', WHERE WHAT IT READS IS OF BULK AT MOST 1048576: true; the input reads as it did. -/
def searchLongestUptoRow : OpenClaim := { program := "ytkcojbjnnonopaa", sum := "663ed6442a65cce7d63b74172da181f983700ea17977108823504d8ae6ea6b00", func := "flail/flaillaw05.SearchLongest", spec := "searchLongest", inPlace := ["internal/bytealg.IndexByteString", "internal/bytealg.IndexString"], named := ["internal/bytealg.MaxLen"], apart := false, narrowed := true }
def SearchLongestUptoSaid : Prop := searchLongestUptoRow.holds Try.pinned (OpenSpec.upto searchLongestSpec)

/-- 'flaillaw05.SearchNone', WHERE WHAT IT READS IS OF BULK AT MOST 1048576: true; the input reads as it did. -/
def searchNoneUptoRow : OpenClaim := { program := "ytkcojbjnnonopaa", sum := "663ed6442a65cce7d63b74172da181f983700ea17977108823504d8ae6ea6b00", func := "flail/flaillaw05.SearchNone", spec := "searchNone", inPlace := ["internal/bytealg.IndexByteString", "internal/bytealg.IndexString"], named := ["internal/bytealg.MaxLen"], apart := false, narrowed := true }
def SearchNoneUptoSaid : Prop := searchNoneUptoRow.holds Try.pinned (OpenSpec.upto searchNoneSpec)

/-- 'flaillaw05.SearchBounds', WHERE WHAT IT READS IS OF BULK AT MOST 1048576: true; the input reads as it did. -/
def searchBoundsUptoRow : OpenClaim := { program := "ytkcojbjnnonopaa", sum := "663ed6442a65cce7d63b74172da181f983700ea17977108823504d8ae6ea6b00", func := "flail/flaillaw05.SearchBounds", spec := "searchBounds", inPlace := ["internal/bytealg.IndexByteString", "internal/bytealg.IndexString"], named := ["internal/bytealg.MaxLen"], apart := false, narrowed := true }
def SearchBoundsUptoSaid : Prop := searchBoundsUptoRow.holds Try.pinned (OpenSpec.upto searchBoundsSpec)

end Rows
end Go.Proofs.Ytkcojbjnnonopaa
