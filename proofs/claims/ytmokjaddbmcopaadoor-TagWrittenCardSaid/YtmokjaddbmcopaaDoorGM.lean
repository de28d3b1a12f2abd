-- pruned2
/- Proved: what references by numbers read (chapter 4), in plain words. No conditions. -/
import Derived.Test.YtmokjaddbmcopaaDoorGN
import Derived.Laws.BitsAllLaws
namespace Go.Proofs.YtmokjaddbmcopaaDoor.G
open Go.RowKit Go.Proofs.YtmokjaddbmcopaaDoorW.PrintWords
set_option linter.unusedVariables false
set_option linter.unusedSimpArgs false
/-! digits of numbers -/
theorem fixS_size (n : Int) : 1 ≤ (fixS n).size ∧ (fixS n).size ≤ 4 := by
  have h : ∀ n : Int, 1 ≤ (sgn n).size ∧ (sgn n).size ≤ 4 := by
    intro n
    unfold sgn Utf8.encode
    simp only []
    generalize (if Utf8.valid n = true then n.toNat else Utf8.runeError) = c
    split
    · exact ⟨by show 1 ≤ 1; omega, by show 1 ≤ 4; omega⟩
    · split
      · exact ⟨by show 1 ≤ 2; omega, by show 2 ≤ 4; omega⟩
      · split
        · exact ⟨by show 1 ≤ 3; omega, by show 3 ≤ 4; omega⟩
        · exact ⟨by show 1 ≤ 4; omega, by show 4 ≤ 4; omega⟩
  unfold fixS
  split
  · exact ⟨by decide, by decide⟩
  · split
    · exact h _
    · exact h _
end Go.Proofs.YtmokjaddbmcopaaDoor.G
