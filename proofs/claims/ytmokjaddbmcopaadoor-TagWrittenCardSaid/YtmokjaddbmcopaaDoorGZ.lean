-- pruned2
/- Proved: laws of tags (chapter 9), over lists of bytes. No conditions. -/
import Derived.Test.YtmokjaddbmcopaaDoorGY
import Derived.Test.YtmokjaddbmcopaaDoorGU
namespace Go.Proofs.YtmokjaddbmcopaaDoor.G
open Go.RowKit Go.Proofs.YtmokjaddbmcopaaDoorW.PrintWords
set_option linter.unusedVariables false
set_option linter.unusedSimpArgs false
def tW (u : List UInt8) : Nat := wdU [47, 62] (u.drop (tagK u))
def tZ (u : List UInt8) : List UInt8 := (u.drop (tagK u)).drop (tW u)
def tNm (u : List UInt8) : List UInt8 := cleanL (low ((u.drop (tagK u)).take (tW u)))
noncomputable def tOk (u : List UInt8) : Bool := (sc (tZ u)).2.2.2
noncomputable def tN (u : List UInt8) : Nat := tagK u + tW u + (sc (tZ u)).2.2.1
theorem let_stop (c : UInt8) (h : letB c = true) : spaceB c = false ∧ c ≠ 47 ∧ c ≠ 62 ∧ 97 ≤ (lowU c).toNat ∧ (lowU c).toNat ≤ 122 ∧ cleanL [lowU c] = [lowU c] := by
  revert h; revert c; exact u8_all (by decide +kernel)
theorem wdU_let (e : List UInt8) (c : UInt8) (v : List UInt8) (h : spaceB c = false) (he : c ∉ e) : wdU e (c :: v) = wdU e v + 1 := by rw [wdU, if_neg (by rw [h]; decide), if_neg he]
end Go.Proofs.YtmokjaddbmcopaaDoor.G
