/-
  No cell of these rows narrows 'for every input' (looked for: loops, veiled, ifaces, maps, wideKeys, modest, calm, conditions, laid).
  DERIVED. THE GIVEN ROWS OF THIS SEAT. 11 by the template 'for every input the law returns true; each argument reads behind the call as it read before'; 0 by the template 'total and deterministic' (their statements: YtpcejdmhdjajcaaTotals.lean).
  GIVEN WITH THE SEED: the statements are not yours to turn. If you find one false, say at which input.
  Laid BY PROGRAM, IN A SANDBOX (cutbox-rows.mjs): the forced cells as the released guide's own fill.sh prints them over the translation 7e629e404d158d33… (all of the seat's roots in one cut). By AI agents, Wed Nov 11 2026. No macro, syntax, notation, axiom, sorry.
-/
import Derived.Test.YtpcejdmhdjajcaaChecked
import GoSem.Claim
import GoSem.ClaimJoined
import GoSem.ClaimMapViews
import Derived.JoinedTies
import Derived.KernelRfl
namespace Go.Proofs.Ytpcejdmhdjajcaa
/- THE CELL 'sum', in the pinned program and in every row, IS THE sha256 OF THE DUMP (.gsa) THAT YtpcejdmhdjajcaaProg.lean LOADS. Nothing in Lean hashes anything: it is a label: what it is worth is what the hold of that sum in a sandbox is worth. -/
noncomputable def Try.pinned : Pinned := { name := "ytpcejdmhdjajcaa", sum := "7e629e404d158d33e26c4413f66532dd34c8e8693a220e0dbae96937885931ae", checked := Try.checked }
namespace Rows
def none {H : Type} : Left H := { results := [], args := [] }

/-- 'flaillaw03.SignTells': WHATEVER THE INPUT: true; the input reads as it did. -/
def signTellsSpec : ChangeSpec := { name := "signTells", fn := fun _ => fun
  | [d] => { results := [.lit (.bool true)], args := [d] }
  | _ => none }
def signTellsRow : OpenClaim := { program := "ytpcejdmhdjajcaa", sum := "7e629e404d158d33e26c4413f66532dd34c8e8693a220e0dbae96937885931ae", func := "flail/flaillaw03.SignTells", spec := "signTells", apart := false }
def SignTellsSaid : Prop := signTellsRow.holds Try.pinned (OpenSpec.ofChange signTellsSpec)

/-- ITS FALSE NEIGHBOUR: 'it returns false'. Refute it at one input. -/
def signTellsWrong : ChangeSpec := { name := "signTells", fn := fun _ => fun
  | [d] => { results := [.lit (.bool false)], args := [d] }
  | _ => none }
def SignTellsWrongFalsely : Prop := signTellsRow.holds Try.pinned (OpenSpec.ofChange signTellsWrong)

/-- 'flaillaw03.SignLowers': WHATEVER THE INPUT: true; the input reads as it did. -/
def signLowersSpec : ChangeSpec := { name := "signLowers", fn := fun _ => fun
  | [d1, d2, d3] => { results := [.lit (.bool true)], args := [d1, d2, d3] }
  | _ => none }
def signLowersRow : OpenClaim := { program := "ytpcejdmhdjajcaa", sum := "7e629e404d158d33e26c4413f66532dd34c8e8693a220e0dbae96937885931ae", func := "flail/flaillaw03.SignLowers", spec := "signLowers", apart := false }
def SignLowersSaid : Prop := signLowersRow.holds Try.pinned (OpenSpec.ofChange signLowersSpec)

/-- ITS FALSE NEIGHBOUR: 'it returns false'. Refute it at one input. -/
def signLowersWrong : ChangeSpec := { name := "signLowers", fn := fun _ => fun
  | [d1, d2, d3] => { results := [.lit (.bool false)], args := [d1, d2, d3] }
  | _ => none }
def SignLowersWrongFalsely : Prop := signLowersRow.holds Try.pinned (OpenSpec.ofChange signLowersWrong)

/-- 'flaillaw03.SignOnce': WHATEVER THE INPUT: true; the input reads as it did. -/
def signOnceSpec : ChangeSpec := { name := "signOnce", fn := fun _ => fun
  | [d1, d2, d3] => { results := [.lit (.bool true)], args := [d1, d2, d3] }
  | _ => none }
def signOnceRow : OpenClaim := { program := "ytpcejdmhdjajcaa", sum := "7e629e404d158d33e26c4413f66532dd34c8e8693a220e0dbae96937885931ae", func := "flail/flaillaw03.SignOnce", spec := "signOnce", apart := false }
def SignOnceSaid : Prop := signOnceRow.holds Try.pinned (OpenSpec.ofChange signOnceSpec)

/-- ITS FALSE NEIGHBOUR: 'it returns false'. Refute it at one input. -/
def signOnceWrong : ChangeSpec := { name := "signOnce", fn := fun _ => fun
  | [d1, d2, d3] => { results := [.lit (.bool false)], args := [d1, d2, d3] }
  | _ => none }
def SignOnceWrongFalsely : Prop := signOnceRow.holds Try.pinned (OpenSpec.ofChange signOnceWrong)

/-- 'flaillaw03.SignHex': WHATEVER THE INPUT: true; the input reads as it did. -/
def signHexSpec : ChangeSpec := { name := "signHex", fn := fun _ => fun
  | [d] => { results := [.lit (.bool true)], args := [d] }
  | _ => none }
def signHexRow : OpenClaim := { program := "ytpcejdmhdjajcaa", sum := "7e629e404d158d33e26c4413f66532dd34c8e8693a220e0dbae96937885931ae", func := "flail/flaillaw03.SignHex", spec := "signHex", apart := false }
def SignHexSaid : Prop := signHexRow.holds Try.pinned (OpenSpec.ofChange signHexSpec)

/-- ITS FALSE NEIGHBOUR: 'it returns false'. Refute it at one input. -/
def signHexWrong : ChangeSpec := { name := "signHex", fn := fun _ => fun
  | [d] => { results := [.lit (.bool false)], args := [d] }
  | _ => none }
def SignHexWrongFalsely : Prop := signHexRow.holds Try.pinned (OpenSpec.ofChange signHexWrong)

/-- 'flaillaw03.SignJoins': WHATEVER THE INPUT: true; the input reads as it did. -/
def signJoinsSpec : ChangeSpec := { name := "signJoins", fn := fun _ => fun
  | [d1, d2] => { results := [.lit (.bool true)], args := [d1, d2] }
  | _ => none }
def signJoinsRow : OpenClaim := { program := "ytpcejdmhdjajcaa", sum := "7e629e404d158d33e26c4413f66532dd34c8e8693a220e0dbae96937885931ae", func := "flail/flaillaw03.SignJoins", spec := "signJoins", apart := false }
def SignJoinsSaid : Prop := signJoinsRow.holds Try.pinned (OpenSpec.ofChange signJoinsSpec)

/-- ITS FALSE NEIGHBOUR: 'it returns false'. Refute it at one input. -/
def signJoinsWrong : ChangeSpec := { name := "signJoins", fn := fun _ => fun
  | [d1, d2] => { results := [.lit (.bool false)], args := [d1, d2] }
  | _ => none }
def SignJoinsWrongFalsely : Prop := signJoinsRow.holds Try.pinned (OpenSpec.ofChange signJoinsWrong)

/-- 'flaillaw04.NumberFixes': WHATEVER THE INPUT: true; the input reads as it did. -/
def numberFixesSpec : ChangeSpec := { name := "numberFixes", fn := fun _ => fun
  | [d] => { results := [.lit (.bool true)], args := [d] }
  | _ => none }
def numberFixesRow : OpenClaim := { program := "ytpcejdmhdjajcaa", sum := "7e629e404d158d33e26c4413f66532dd34c8e8693a220e0dbae96937885931ae", func := "flail/flaillaw04.NumberFixes", spec := "numberFixes", apart := false }
def NumberFixesSaid : Prop := numberFixesRow.holds Try.pinned (OpenSpec.ofChange numberFixesSpec)

/-- ITS FALSE NEIGHBOUR: 'it returns false'. Refute it at one input. -/
def numberFixesWrong : ChangeSpec := { name := "numberFixes", fn := fun _ => fun
  | [d] => { results := [.lit (.bool false)], args := [d] }
  | _ => none }
def NumberFixesWrongFalsely : Prop := numberFixesRow.holds Try.pinned (OpenSpec.ofChange numberFixesWrong)

/-- 'flaillaw04.NumberReads': WHATEVER THE INPUT: true; the input reads as it did. -/
def numberReadsSpec : ChangeSpec := { name := "numberReads", fn := fun _ => fun
  | [d1, d2, d3] => { results := [.lit (.bool true)], args := [d1, d2, d3] }
  | _ => none }
def numberReadsRow : OpenClaim := { program := "ytpcejdmhdjajcaa", sum := "7e629e404d158d33e26c4413f66532dd34c8e8693a220e0dbae96937885931ae", func := "flail/flaillaw04.NumberReads", spec := "numberReads", apart := false }
def NumberReadsSaid : Prop := numberReadsRow.holds Try.pinned (OpenSpec.ofChange numberReadsSpec)

/-- ITS FALSE NEIGHBOUR: 'it returns false'. Refute it at one input. -/
def numberReadsWrong : ChangeSpec := { name := "numberReads", fn := fun _ => fun
  | [d1, d2, d3] => { results := [.lit (.bool false)], args := [d1, d2, d3] }
  | _ => none }
def NumberReadsWrongFalsely : Prop := numberReadsRow.holds Try.pinned (OpenSpec.ofChange numberReadsWrong)

/-- 'flaillaw04.NumberZeros': WHATEVER THE INPUT: true; the input reads as it did. -/
def numberZerosSpec : ChangeSpec := { name := "numberZeros", fn := fun _ => fun
  | [d1, d2] => { results := [.lit (.bool true)], args := [d1, d2] }
  | _ => none }
def numberZerosRow : OpenClaim := { program := "ytpcejdmhdjajcaa", sum := "7e629e404d158d33e26c4413f66532dd34c8e8693a220e0dbae96937885931ae", func := "flail/flaillaw04.NumberZeros", spec := "numberZeros", apart := false }
def NumberZerosSaid : Prop := numberZerosRow.holds Try.pinned (OpenSpec.ofChange numberZerosSpec)

/-- ITS FALSE NEIGHBOUR: 'it returns false'. Refute it at one input. -/
def numberZerosWrong : ChangeSpec := { name := "numberZeros", fn := fun _ => fun
  | [d1, d2] => { results := [.lit (.bool false)], args := [d1, d2] }
  | _ => none }
def NumberZerosWrongFalsely : Prop := numberZerosRow.holds Try.pinned (OpenSpec.ofChange numberZerosWrong)

/-- 'flaillaw04.NumberTold': WHATEVER THE INPUT: true; the input reads as it did. -/
def numberToldSpec : ChangeSpec := { name := "numberTold", fn := fun _ => fun
  | [d1, d2] => { results := [.lit (.bool true)], args := [d1, d2] }
  | _ => none }
def numberToldRow : OpenClaim := { program := "ytpcejdmhdjajcaa", sum := "7e629e404d158d33e26c4413f66532dd34c8e8693a220e0dbae96937885931ae", func := "flail/flaillaw04.NumberTold", spec := "numberTold", recurses := true, apart := false }
def NumberToldSaid : Prop := numberToldRow.holds Try.pinned (OpenSpec.ofChange numberToldSpec)

/-- ITS FALSE NEIGHBOUR: 'it returns false'. Refute it at one input. -/
def numberToldWrong : ChangeSpec := { name := "numberTold", fn := fun _ => fun
  | [d1, d2] => { results := [.lit (.bool false)], args := [d1, d2] }
  | _ => none }
def NumberToldWrongFalsely : Prop := numberToldRow.holds Try.pinned (OpenSpec.ofChange numberToldWrong)

/-- 'flaillaw04.NumberEnds': WHATEVER THE INPUT: true; the input reads as it did. -/
def numberEndsSpec : ChangeSpec := { name := "numberEnds", fn := fun _ => fun
  | [d1, d2] => { results := [.lit (.bool true)], args := [d1, d2] }
  | _ => none }
def numberEndsRow : OpenClaim := { program := "ytpcejdmhdjajcaa", sum := "7e629e404d158d33e26c4413f66532dd34c8e8693a220e0dbae96937885931ae", func := "flail/flaillaw04.NumberEnds", spec := "numberEnds", apart := false }
def NumberEndsSaid : Prop := numberEndsRow.holds Try.pinned (OpenSpec.ofChange numberEndsSpec)

/-- ITS FALSE NEIGHBOUR: 'it returns false'. Refute it at one input. -/
def numberEndsWrong : ChangeSpec := { name := "numberEnds", fn := fun _ => fun
  | [d1, d2] => { results := [.lit (.bool false)], args := [d1, d2] }
  | _ => none }
def NumberEndsWrongFalsely : Prop := numberEndsRow.holds Try.pinned (OpenSpec.ofChange numberEndsWrong)

/-- 'flaillaw04.NumberHex': WHATEVER THE INPUT: true; the input reads as it did. -/
def numberHexSpec : ChangeSpec := { name := "numberHex", fn := fun _ => fun
  | [d] => { results := [.lit (.bool true)], args := [d] }
  | _ => none }
def numberHexRow : OpenClaim := { program := "ytpcejdmhdjajcaa", sum := "7e629e404d158d33e26c4413f66532dd34c8e8693a220e0dbae96937885931ae", func := "flail/flaillaw04.NumberHex", spec := "numberHex", recurses := true, apart := false }
def NumberHexSaid : Prop := numberHexRow.holds Try.pinned (OpenSpec.ofChange numberHexSpec)

/-- ITS FALSE NEIGHBOUR: 'it returns false'. Refute it at one input. -/
def numberHexWrong : ChangeSpec := { name := "numberHex", fn := fun _ => fun
  | [d] => { results := [.lit (.bool false)], args := [d] }
  | _ => none }
def NumberHexWrongFalsely : Prop := numberHexRow.holds Try.pinned (OpenSpec.ofChange numberHexWrong)

/- THE SECOND FORM. 'bulk': how many values and letters a reading holds, each counted each time it is reached (what is shared counts as often as it is met; a slice's spare places count too). A statement '..UptoSaid' is the law's where the arguments, and the package variables that the reading takes, are together of bulk at most 1048576: NARROWER than '..Said'. Prove '..Said' where nothing that the law and all that it calls make is longer than what came in: it says more and counts as full. Else prove '..UptoSaid'. A law counts once. -/
mutual
def uptoBulk {H : Type} : DataW H → Nat
  | .lit (.string bytes) => bytes.length + 1
  | .lit _ => 1
  | .nil => 1
  | .ptr d => uptoBulk d + 1
  | .slice elems spare => uptoBulkAll elems + uptoBulkAll spare + 1
  | .agg parts => uptoBulkAll parts + 1
  | .iface _ d => uptoBulk d + 1
  | .map entries => uptoBulkEntries entries + 1
  | .held _ => 1
def uptoBulkAll {H : Type} : List (DataW H) → Nat
  | [] => 0
  | d :: r => uptoBulk d + uptoBulkAll r
def uptoBulkEntries {H : Type} : List (Lit × DataW H) → Nat
  | [] => 0
  | x :: r => uptoBulkEntry x + uptoBulkEntries r
def uptoBulkEntry {H : Type} : Lit × DataW H → Nat
  | (.string bytes, d) => bytes.length + uptoBulk d + 1
  | (_, d) => uptoBulk d + 1
 end
def uptoSmall : (H : Type) → List (DataW H) → Bool := fun _ ds => decide (uptoBulkAll ds ≤ 1048576)
def OpenSpec.upto (s : _root_.Go.ChangeSpec) : _root_.Go.OpenSpec := { _root_.Go.OpenSpec.ofChange s with cond := some uptoSmall }

/-- 'flaillaw03.SignTells', WHERE WHAT IT READS IS OF BULK AT MOST 1048576: true; the input reads as it did. -/
def signTellsUptoRow : OpenClaim := { program := "ytpcejdmhdjajcaa", sum := "7e629e404d158d33e26c4413f66532dd34c8e8693a220e0dbae96937885931ae", func := "flail/flaillaw03.SignTells", spec := "signTells", apart := false, narrowed := true }
def SignTellsUptoSaid : Prop := signTellsUptoRow.holds Try.pinned (OpenSpec.upto signTellsSpec)

/-- 'flaillaw03.SignLowers', WHERE WHAT IT READS IS OF BULK AT MOST 1048576: true; the input reads as it did. -/
def signLowersUptoRow : OpenClaim := { program := "ytpcejdmhdjajcaa", sum := "7e629e404d158d33e26c4413f66532dd34c8e8693a220e0dbae96937885931ae", func := "flail/flaillaw03.SignLowers", spec := "signLowers", apart := false, narrowed := true }
def SignLowersUptoSaid : Prop := signLowersUptoRow.holds Try.pinned (OpenSpec.upto signLowersSpec)

/-- 'flaillaw03.SignOnce', WHERE WHAT IT READS IS OF BULK AT MOST 1048576: true; the input reads as it did. -/
def signOnceUptoRow : OpenClaim := { program := "ytpcejdmhdjajcaa", sum := "7e629e404d158d33e26c4413f66532dd34c8e8693a220e0dbae96937885931ae", func := "flail/flaillaw03.SignOnce", spec := "signOnce", apart := false, narrowed := true }
def SignOnceUptoSaid : Prop := signOnceUptoRow.holds Try.pinned (OpenSpec.upto signOnceSpec)

/-- 'flaillaw03.SignHex', WHERE WHAT IT READS IS OF BULK AT MOST 1048576: true; the input reads as it did. -/
def signHexUptoRow : OpenClaim := { program := "ytpcejdmhdjajcaa", sum := "7e629e404d158d33e26c4413f66532dd34c8e8693a220e0dbae96937885931ae", func := "flail/flaillaw03.SignHex", spec := "signHex", apart := false, narrowed := true }
def SignHexUptoSaid : Prop := signHexUptoRow.holds Try.pinned (OpenSpec.upto signHexSpec)

/-- 'flaillaw03.SignJoins', WHERE WHAT IT READS IS OF BULK AT MOST 1048576: true; the input reads as it did. -/
def signJoinsUptoRow : OpenClaim := { program := "ytpcejdmhdjajcaa", sum := "7e629e404d158d33e26c4413f66532dd34c8e8693a220e0dbae96937885931ae", func := "flail/flaillaw03.SignJoins", spec := "signJoins", apart := false, narrowed := true }
def SignJoinsUptoSaid : Prop := signJoinsUptoRow.holds Try.pinned (OpenSpec.upto signJoinsSpec)

/-- 'flaillaw04.NumberFixes', WHERE WHAT IT READS IS OF BULK AT MOST 1048576: true; the input reads as it did. -/
def numberFixesUptoRow : OpenClaim := { program := "ytpcejdmhdjajcaa", sum := "7e629e404d158d33e26c4413f66532dd34c8e8693a220e0dbae96937885931ae", func := "flail/flaillaw04.NumberFixes", spec := "numberFixes", apart := false, narrowed := true }
def NumberFixesUptoSaid : Prop := numberFixesUptoRow.holds Try.pinned (OpenSpec.upto numberFixesSpec)

/-- 'flaillaw04.NumberReads', WHERE WHAT IT READS IS OF BULK AT MOST 1048576: true; the input reads as it did. -/
def numberReadsUptoRow : OpenClaim := { program := "ytpcejdmhdjajcaa", sum := "7e629e404d158d33e26c4413f66532dd34c8e8693a220e0dbae96937885931ae", func := "flail/flaillaw04.NumberReads", spec := "numberReads", apart := false, narrowed := true }
def NumberReadsUptoSaid : Prop := numberReadsUptoRow.holds Try.pinned (OpenSpec.upto numberReadsSpec)

/-- 'flaillaw04.NumberZeros', WHERE WHAT IT READS IS OF BULK AT MOST 1048576: true; the input reads as it did. -/
def numberZerosUptoRow : OpenClaim := { program := "ytpcejdmhdjajcaa", sum := "7e629e404d158d33e26c4413f66532dd34c8e8693a220e0dbae96937885931ae", func := "flail/flaillaw04.NumberZeros", spec := "numberZeros", apart := false, narrowed := true }
def NumberZerosUptoSaid : Prop := numberZerosUptoRow.holds Try.pinned (OpenSpec.upto numberZerosSpec)

/-- 'flaillaw04.NumberTold', WHERE WHAT IT READS IS OF BULK AT MOST 1048576: true; the input reads as it did. -/
def numberToldUptoRow : OpenClaim := { program := "ytpcejdmhdjajcaa", sum := "7e629e404d158d33e26c4413f66532dd34c8e8693a220e0dbae96937885931ae", func := "flail/flaillaw04.NumberTold", spec := "numberTold", recurses := true, apart := false, narrowed := true }
def NumberToldUptoSaid : Prop := numberToldUptoRow.holds Try.pinned (OpenSpec.upto numberToldSpec)

/-- 'flaillaw04.NumberEnds', WHERE WHAT IT READS IS OF BULK AT MOST 1048576: true; the input reads as it did. -/
def numberEndsUptoRow : OpenClaim := { program := "ytpcejdmhdjajcaa", sum := "7e629e404d158d33e26c4413f66532dd34c8e8693a220e0dbae96937885931ae", func := "flail/flaillaw04.NumberEnds", spec := "numberEnds", apart := false, narrowed := true }
def NumberEndsUptoSaid : Prop := numberEndsUptoRow.holds Try.pinned (OpenSpec.upto numberEndsSpec)

/-- 'flaillaw04.NumberHex', WHERE WHAT IT READS IS OF BULK AT MOST 1048576: true; the input reads as it did. -/
def numberHexUptoRow : OpenClaim := { program := "ytpcejdmhdjajcaa", sum := "7e629e404d158d33e26c4413f66532dd34c8e8693a220e0dbae96937885931ae", func := "flail/flaillaw04.NumberHex", spec := "numberHex", recurses := true, apart := false, narrowed := true }
def NumberHexUptoSaid : Prop := numberHexUptoRow.holds Try.pinned (OpenSpec.upto numberHexSpec)

end Rows
end Go.Proofs.Ytpcejdmhdjajcaa
