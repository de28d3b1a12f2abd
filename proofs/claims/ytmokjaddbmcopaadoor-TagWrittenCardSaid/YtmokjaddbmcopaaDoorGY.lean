-- pruned2
/- Proved: what attributes' names and values are, and how they are written (chapter 8), over lists of bytes. No conditions. -/
import Derived.Test.YtmokjaddbmcopaaDoorGX
namespace Go.Proofs.YtmokjaddbmcopaaDoor.G
open Go.RowKit Go.Proofs.YtmokjaddbmcopaaDoorW.PrintWords
set_option linter.unusedVariables false
set_option linter.unusedSimpArgs false
theorem wdU_stop (e a u : List UInt8) (c : UInt8) (h : ∀ x ∈ a, spaceB x = false ∧ x ∉ e) (hc : spaceB c = true ∨ c ∈ e) : wdU e (a ++ c :: u) = a.length := by
  induction a with
  | nil =>
    rw [List.nil_append, wdU, List.length_nil]
    by_cases x : spaceB c = true
    · rw [if_pos x]
    · rw [if_neg x, if_pos (hc.resolve_left x)]
  | cons d v ih =>
    have hd := h d List.mem_cons_self
    rw [List.cons_append, wdU, if_neg (by rw [hd.1]; decide), if_neg hd.2, ih (fun x hx => h x (List.mem_cons_of_mem _ hx)), List.length_cons]
theorem value_same (a : List UInt8) (h : (38 : UInt8) ∉ a) (h0 : (0 : UInt8) ∉ a) : cleanL (decS a true) = a := by rw [decS_all a true h, cleanL_plain a h0]
theorem name_same (a : List UInt8) (h : low a = a) (h0 : (0 : UInt8) ∉ a) : cleanL (low a) = a := by rw [h, cleanL_plain a h0]
theorem sc_one (c : UInt8) (w : List UInt8) (hs : spaceB c = false) (h1 : c ≠ 62) (h2 : c ≠ 47) (n : Nat) (x : List UInt8) (hu : upU endsN (c :: w) = 1) (hv : valU w = (x, n, true)) (h38 : (38 : UInt8) ∉ x) (h0 : (0 : UInt8) ∉ x) (hc : low [c] = [c]) (hc0 : c ≠ 0) :
    sc (c :: w) = (([c], x) :: (sc (w.drop n)).1, (sc (w.drop n)).2.1, 1 + n + (sc (w.drop n)).2.2.1, (sc (w.drop n)).2.2.2) := by
  have i1 : itemA (c :: w) = ([c], x) := by
    unfold itemA
    rw [hu, List.drop_succ_cons, List.drop_zero, hv]
    show (cleanL (low [c]), cleanL (decS x true)) = _
    rw [value_same x h38 h0, name_same [c] hc (by simpa using Ne.symm hc0)]
  have i2 : lenA (c :: w) = 1 + n := by unfold lenA; rw [hu, List.drop_succ_cons, List.drop_zero, hv]
  have i3 : fineA (c :: w) = true := by unfold fineA; rw [hu, List.drop_succ_cons, List.drop_zero, hv]
  rw [sc_attr c w hs h1 h2 i3, i1, i2, show 1 + n = n + 1 by omega, List.drop_succ_cons]
end Go.Proofs.YtmokjaddbmcopaaDoor.G
