/- Proved: markup is of one kind; where it begins (chapter 14). No conditions. -/
import Derived.Test.YtodommehhcfccaaDoorGT
namespace Go.Proofs.YtodommehhcfccaaDoor.G
open Go.RowKit Go.Proofs.YtodommehhcfccaaDoorW.PrintWords
set_option linter.unusedVariables false
set_option linter.unusedSimpArgs false
theorem tagK_two (c : UInt8) (w : List UInt8) : tagK (60 :: c :: w) = if letB c then 1 else if c = 47 ∧ hdLet w = true then 2 else 0 := rfl
theorem tagK_one : tagK [60] = 0 := rfl
theorem pf_two (c : UInt8) (w : List UInt8) (x : UInt8) (v : List UInt8) (h : x.toNat < 65 ∨ 122 < x.toNat) : pf (60 :: x :: v) (60 :: c :: w) = (c == x && pf v w) := by
  rw [pf_cons, pf_cons, low_eq (by decide), low_eq h]; rfl
theorem comB_two (c : UInt8) (w : List UInt8) : comB (60 :: c :: w) = if c = 33 then !docB (60 :: c :: w) else if c = 63 then true else if c = 47 then (match w with | [] => false | d :: _ => (d != 62) && !letB d) else false := by
  unfold comB
  rw [pf_two _ _ _ _ (by decide), pf_two _ _ _ _ (by decide), pf_two _ _ _ _ (by decide), pf_nil, Bool.and_true, Bool.and_true, Bool.and_true]
  simp only [beq_iff_eq]
  rfl
theorem docB_two (c : UInt8) (w : List UInt8) : docB (60 :: c :: w) = (c == 33 && pf [100, 111, 99, 116, 121, 112, 101] w) := pf_two _ _ _ _ (by decide)
theorem void_two (c : UInt8) (w : List UInt8) : pf [60, 47, 62] (60 :: c :: w) = (c == 47 && pf [62] w) := pf_two _ _ _ _ (by decide)
theorem pf_gt (d : UInt8) (w : List UInt8) : pf [62] (d :: w) = (d == 62) := by rw [pf_cons, low_eq (by decide), pf_nil, Bool.and_true]
theorem letB_not {c x : UInt8} (h : letB c = true) (hx : letB x = false) : c ≠ x := fun e => by rw [e, hx] at h; cases h
theorem marks_one (u : List UInt8) : (tagK u != 0).toNat + (comB u).toNat + (docB u).toNat + (pf [60, 47, 62] u).toNat ≤ 1 := by
  cases u with
  | nil => decide +kernel
  | cons a v =>
    by_cases ha : a = 60
    · subst ha
      cases v with
      | nil => decide +kernel
      | cons c w =>
        rw [tagK_two, comB_two, void_two]
        by_cases h1 : letB c = true
        · have n33 := letB_not h1 (x := 33) (by decide)
          have n63 := letB_not h1 (x := 63) (by decide)
          have n47 := letB_not h1 (x := 47) (by decide)
          simp [h1, docB_two, n33, n63, n47, beq_eq_false_iff_ne.2 n33, beq_eq_false_iff_ne.2 n47]
        · rw [if_neg h1]
          by_cases c33 : c = 33
          · subst c33
            rw [if_neg (by simp), if_pos rfl]
            cases docB (60 :: 33 :: w) <;> simp
          rw [if_neg c33, docB_two, beq_eq_false_iff_ne.2 c33]
          by_cases c63 : c = 63
          · subst c63
            simp
          rw [if_neg c63]
          by_cases c47 : c = 47
          · subst c47
            rw [if_pos rfl]
            cases w with
            | nil => decide
            | cons d w =>
              rw [pf_gt, hdLet]
              by_cases hd : letB d = true
              · have n62 := letB_not hd (x := 62) (by decide)
                simp [hd, n62, beq_eq_false_iff_ne.2 n62]
              · rw [Bool.not_eq_true] at hd
                by_cases d62 : d = 62
                · subst d62; simp [hd]
                · simp [hd, d62, beq_eq_false_iff_ne.2 d62, bne_iff_ne.2 d62]
          · simp [c47, beq_eq_false_iff_ne.2 c47]
    · have hm := markB_head a v ha
      unfold markB at hm
      rw [Bool.or_eq_false_iff, Bool.or_eq_false_iff, Bool.or_eq_false_iff] at hm
      rw [hm.1, hm.2.1, hm.2.2.1, hm.2.2.2]; decide
/-- What begins with a bracket and a sign: markup, or not. -/
theorem markB_two (c : UInt8) (w : List UInt8) : markB (60 :: c :: w) = (letB c || c == 33 || c == 63 || (c == 47 && !w.isEmpty)) := by
  unfold markB
  rw [tagK_two, comB_two, void_two]
  by_cases h1 : letB c = true
  · rw [if_pos h1, h1]; rfl
  rw [if_neg h1, show letB c = false by simpa using h1]
  by_cases c33 : c = 33
  · subst c33
    rw [if_pos rfl, if_neg (by simp)]
    cases docB (60 :: 33 :: w) <;> simp
  rw [if_neg c33, docB_two, beq_eq_false_iff_ne.2 c33]
  by_cases c63 : c = 63
  · subst c63
    rw [if_pos rfl, if_neg (by simp)]; rfl
  rw [if_neg c63, beq_eq_false_iff_ne.2 c63]
  by_cases c47 : c = 47
  · subst c47
    rw [if_pos rfl]
    cases w with
    | nil => decide
    | cons d w =>
      rw [pf_gt, hdLet]
      by_cases hd : letB d = true
      · rw [hd]; simp
      · rw [Bool.not_eq_true] at hd
        rw [hd]
        by_cases d62 : d = 62
        · subst d62; simp
        · simp [hd, d62, beq_eq_false_iff_ne.2 d62, bne_iff_ne.2 d62]
  · simp [c47, beq_eq_false_iff_ne.2 c47]
theorem markB_one : markB [60] = false := by decide +kernel
end Go.Proofs.YtodommehhcfccaaDoor.G
