-- pruned2
/- Proved: small laws of the words of chapters 9 to 14 (where markup begins), over lists of bytes. No conditions. -/
import Derived.Test.YtmokjaddbmcopaaDoorGR
namespace Go.Proofs.YtmokjaddbmcopaaDoor.G
open Go.RowKit Go.Proofs.YtmokjaddbmcopaaDoorW.PrintWords
set_option linter.unusedVariables false
set_option linter.unusedSimpArgs false
def pf (w u : List UInt8) : Bool := low (u.take w.length) == w
theorem pf_len {w u : List UInt8} (h : pf w u = true) : w.length ≤ u.length := by
  have := congrArg List.length (beq_iff_eq.1 h)
  rw [low_length, List.length_take] at this; omega
theorem begL_pf (l : List UInt8) (p : Int) (w : List UInt8) : begL l p w = (decide (0 ≤ p ∧ p ≤ l.length) && pf w (l.drop p.toNat)) := by
  unfold begL
  by_cases h : 0 ≤ p ∧ p ≤ l.length
  · by_cases h2 : p + w.length ≤ l.length
    · rw [decide_eq_true ⟨h.1, h.2, h2⟩, decide_eq_true h]; rfl
    · rw [decide_eq_false (by omega), decide_eq_true h, Bool.false_and, Bool.true_and]
      cases e : pf w (l.drop p.toNat) with
      | false => rfl
      | true => have := pf_len e; rw [List.length_drop] at this; omega
  · rw [decide_eq_false (by omega), decide_eq_false h]; rfl
theorem pf_nil (u : List UInt8) : pf [] u = true := rfl
theorem pf_none (c : UInt8) (w : List UInt8) : pf (c :: w) [] = false := rfl
theorem pf_cons (c d : UInt8) (w u : List UInt8) : pf (c :: w) (d :: u) = (lowU d == c && pf w u) := by
  unfold pf
  rw [List.length_cons, List.take_succ_cons]
  show (lowU d :: low (u.take w.length) == c :: w) = _
  rw [List.cons_beq_cons]
theorem low_eq {c x : UInt8} (h : c.toNat < 65 ∨ 122 < c.toNat) : (lowU x == c) = (x == c) := by
  rw [Bool.eq_iff_iff, beq_iff_eq, beq_iff_eq]; exact low_is c x h
def letB (c : UInt8) : Bool := letterI c.toNat
def hdLet : List UInt8 → Bool
  | [] => false
  | c :: _ => letB c
def tagK : List UInt8 → Nat
  | [] => 0
  | a :: v => if a = 60 then (if hdLet v then 1 else match v with | [] => 0 | c :: v => if c = 47 ∧ hdLet v = true then 2 else 0) else 0
def tagN (l : List UInt8) (p : Int) : Int := if 0 ≤ p ∧ p ≤ l.length then ((tagK (l.drop p.toNat) : Nat) : Int) else 0
theorem tagK_le (u : List UInt8) : tagK u ≤ 2 ∧ tagK u + (if tagK u = 0 then 0 else 1) ≤ u.length := by
  unfold tagK
  cases u with
  | nil => simp
  | cons a v =>
    simp only []
    split
    · split
      · rename_i h; cases v with
        | nil => cases h
        | cons c v => simp
      · cases v with
        | nil => simp
        | cons c v =>
          simp only []
          split
          · rename_i h; cases v with
            | nil => exact absurd h.2 (by simp [hdLet])
            | cons d v => simp
          · simp
    · simp
theorem tagK_is (u : List UInt8) : tagK u = (if pf [60] u && hdLet (u.drop 1) then 1 else if pf [60, 47] u && hdLet (u.drop 2) then 2 else 0) ∧ ¬ ((pf [60] u && hdLet (u.drop 1)) = true ∧ (pf [60, 47] u && hdLet (u.drop 2)) = true) := by
  cases u with
  | nil => exact ⟨rfl, by simp [pf_none]⟩
  | cons a v =>
    rw [pf_cons, pf_cons, low_eq (by decide), pf_nil, Bool.and_true]
    simp only [List.drop_succ_cons, List.drop_zero]
    cases v with
    | nil => simp [tagK, hdLet, pf_none]
    | cons c v =>
      rw [pf_cons, low_eq (by decide), pf_nil, Bool.and_true]
      simp only [List.drop_succ_cons, List.drop_zero]
      by_cases ha : a = 60
      · subst ha
        by_cases hc : c = 47
        · subst hc
          have h47 : letB 47 = false := by decide
          simp [tagK, hdLet, h47]
        · simp [tagK, hdLet, hc]
      · simp [tagK, ha]
theorem letter_drop (l : List UInt8) (i : Nat) : hdLet (l.drop i) = (decide (i < l.length) && letterI (at_ l i)) := by
  by_cases h : i < l.length
  · rw [List.drop_eq_getElem_cons h, decide_eq_true h, Bool.true_and, hdLet, letB, show at_ l i = ((l[i].toNat : Nat) : Int) by simp [at_, List.getD, h]]
  · rw [List.drop_of_length_le (by omega), decide_eq_false h]; rfl
end Go.Proofs.YtmokjaddbmcopaaDoor.G
