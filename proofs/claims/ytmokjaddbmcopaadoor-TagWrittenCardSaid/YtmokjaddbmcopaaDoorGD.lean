-- pruned2
/- Proved: which name is the longest at a place, in the program's list of names. No conditions. -/
import Derived.Test.YtmokjaddbmcopaaDoorGC
namespace Go.Proofs.YtmokjaddbmcopaaDoor.G
open Go.RowKit Go.Proofs.YtmokjaddbmcopaaDoorW.PrintWords
set_option linter.unusedVariables false
set_option linter.unusedSimpArgs false
theorem longN_le (u : List UInt8) : longN u ≤ u.length ∧ longN u ≤ 32 := by
  have := maxOf_le (isKey rowsN u) (min (32 : Int) u.length).toNat
  unfold longN longest; omega
theorem wordI_B (c : UInt8) : wordI (c.toNat : Int) = wordB c := by revert c; exact u8_all (by decide +kernel)
end Go.Proofs.YtmokjaddbmcopaaDoor.G
