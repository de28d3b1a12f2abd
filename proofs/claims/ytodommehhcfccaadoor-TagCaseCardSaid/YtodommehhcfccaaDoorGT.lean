/- Proved: small laws of the words of chapters 9 to 14 (where markup begins), over lists of bytes. No conditions. -/
import Derived.Test.YtodommehhcfccaaDoorGR
namespace Go.Proofs.YtodommehhcfccaaDoor.G
open Go.RowKit Go.Proofs.YtodommehhcfccaaDoorW.PrintWords
set_option linter.unusedVariables false
set_option linter.unusedSimpArgs false
/-- Does a text begin with a word, in whatever letters? -/
def pf (w u : List UInt8) : Bool := low (u.take w.length) == w
theorem pf_len {w u : List UInt8} (h : pf w u = true) : w.length ≤ u.length := by
  have := congrArg List.length (beq_iff_eq.1 h)
  rw [low_length, List.length_take] at this; omega
theorem begL_pf (l : List UInt8) (p : Int) (w : List UInt8) : begL l p w = (decide (0 ≤ p ∧ p ≤ l.length) && pf w (l.drop p.toNat)) := by
  unfold begL
  by_cases h : 0 ≤ p ∧ p ≤ l.length
  · by_cases h2 : p + w.length ≤ l.length
    · rw [decide_eq_true ⟨h.1, h.2, h2⟩, decide_eq_true h]; rfl
    · rw [decide_eq_false (by omega), decide_eq_true h, Bool.false_and, Bool.true_and]
      cases e : pf w (l.drop p.toNat) with
      | false => rfl
      | true => have := pf_len e; rw [List.length_drop] at this; omega
  · rw [decide_eq_false (by omega), decide_eq_false h]; rfl
theorem pf_nil (u : List UInt8) : pf [] u = true := rfl
theorem pf_none (c : UInt8) (w : List UInt8) : pf (c :: w) [] = false := rfl
theorem pf_cons (c d : UInt8) (w u : List UInt8) : pf (c :: w) (d :: u) = (lowU d == c && pf w u) := by
  unfold pf
  rw [List.length_cons, List.take_succ_cons]
  show (lowU d :: low (u.take w.length) == c :: w) = _
  rw [List.cons_beq_cons]
theorem pf_append (w v u : List UInt8) : pf (w ++ v) u = (pf w u && pf v (u.drop w.length)) := by
  induction w generalizing u with
  | nil => rfl
  | cons c w ih =>
    cases u with
    | nil => rfl
    | cons d u => rw [List.cons_append, pf_cons, pf_cons, ih, Bool.and_assoc, List.length_cons, List.drop_succ_cons]
theorem pf_more (w u v : List UInt8) (h : w.length ≤ u.length) : pf w (u ++ v) = pf w u := by
  unfold pf; rw [List.take_append_of_le_length h]
theorem low_eq {c x : UInt8} (h : c.toNat < 65 ∨ 122 < c.toNat) : (lowU x == c) = (x == c) := by
  rw [Bool.eq_iff_iff, beq_iff_eq, beq_iff_eq]; exact low_is c x h
def letB (c : UInt8) : Bool := letterI c.toNat
def hdLet : List UInt8 → Bool
  | [] => false
  | c :: _ => letB c
/-- How many bytes are ahead of a tag's name, of what stands there; 0: there is none. -/
def tagK : List UInt8 → Nat
  | [] => 0
  | a :: v => if a = 60 then (if hdLet v then 1 else match v with | [] => 0 | c :: v => if c = 47 ∧ hdLet v = true then 2 else 0) else 0
def tagN (l : List UInt8) (p : Int) : Int := if 0 ≤ p ∧ p ≤ l.length then ((tagK (l.drop p.toNat) : Nat) : Int) else 0
theorem tagK_le (u : List UInt8) : tagK u ≤ 2 ∧ tagK u + (if tagK u = 0 then 0 else 1) ≤ u.length := by
  unfold tagK
  cases u with
  | nil => simp
  | cons a v =>
    simp only []
    split
    · split
      · rename_i h; cases v with
        | nil => cases h
        | cons c v => simp
      · cases v with
        | nil => simp
        | cons c v =>
          simp only []
          split
          · rename_i h; cases v with
            | nil => exact absurd h.2 (by simp [hdLet])
            | cons d v => simp
          · simp
    · simp
theorem tagK_is (u : List UInt8) : tagK u = (if pf [60] u && hdLet (u.drop 1) then 1 else if pf [60, 47] u && hdLet (u.drop 2) then 2 else 0) ∧ ¬ ((pf [60] u && hdLet (u.drop 1)) = true ∧ (pf [60, 47] u && hdLet (u.drop 2)) = true) := by
  cases u with
  | nil => exact ⟨rfl, by simp [pf_none]⟩
  | cons a v =>
    rw [pf_cons, pf_cons, low_eq (by decide), pf_nil, Bool.and_true]
    simp only [List.drop_succ_cons, List.drop_zero]
    cases v with
    | nil => simp [tagK, hdLet, pf_none]
    | cons c v =>
      rw [pf_cons, low_eq (by decide), pf_nil, Bool.and_true]
      simp only [List.drop_succ_cons, List.drop_zero]
      by_cases ha : a = 60
      · subst ha
        by_cases hc : c = 47
        · subst hc
          have h47 : letB 47 = false := by decide
          simp [tagK, hdLet, h47]
        · simp [tagK, hdLet, hc]
      · simp [tagK, ha]
theorem letter_drop (l : List UInt8) (i : Nat) : hdLet (l.drop i) = (decide (i < l.length) && letterI (at_ l i)) := by
  by_cases h : i < l.length
  · rw [List.drop_eq_getElem_cons h, decide_eq_true h, Bool.true_and, hdLet, letB, show at_ l i = ((l[i].toNat : Nat) : Int) by simp [at_, List.getD, h]]
  · rw [List.drop_of_length_le (by omega), decide_eq_false h]; rfl
/-- Does a doctype begin there? A comment? Any markup? -/
def docB (u : List UInt8) : Bool := pf [60, 33, 100, 111, 99, 116, 121, 112, 101] u
def comB (u : List UInt8) : Bool :=
  if pf [60, 33] u then !docB u else if pf [60, 63] u then true else if pf [60, 47] u then (match u.drop 2 with | [] => false | c :: _ => (c != 62) && !letB c) else false
def markB (u : List UInt8) : Bool := (tagK u != 0) || (comB u || (docB u || pf [60, 47, 62] u))
/-- How many bytes are ahead of where markup begins. -/
def nextU : List UInt8 → Nat
  | [] => 0
  | c :: v => if markB (c :: v) then 0 else nextU v + 1
theorem nextU_le (u : List UInt8) : nextU u ≤ u.length := by
  induction u with
  | nil => exact Nat.le_refl _
  | cons c v ih => rw [nextU]; split <;> simp <;> omega
theorem pf_head {a c : UInt8} {w v : List UInt8} (h : c.toNat < 65 ∨ 122 < c.toNat) (ha : a ≠ c) : pf (c :: w) (a :: v) = false := by
  rw [pf_cons, low_eq h, beq_eq_false_iff_ne.2 ha]; rfl
theorem markB_head (a : UInt8) (v : List UInt8) (h : a ≠ 60) : markB (a :: v) = false := by
  have ht : tagK (a :: v) = 0 := if_neg h
  unfold markB docB comB docB
  rw [pf_head (by decide) h, pf_head (by decide) h, pf_head (by decide) h, pf_head (by decide) h, ht, pf_head (by decide) h]; rfl
theorem markB_nil : markB [] = false := rfl
theorem nextU_plain (a u : List UInt8) (h : (60 : UInt8) ∉ a) : nextU (a ++ u) = a.length + nextU u := by
  induction a with
  | nil => simp
  | cons c a ih =>
    have hc : c ≠ 60 := fun e => h (by rw [e]; exact List.mem_cons_self ..)
    rw [List.cons_append, nextU, markB_head _ _ hc, if_neg (by decide), ih (fun e => h (List.mem_cons_of_mem _ e)), List.length_cons]; omega
theorem nextU_none (a : List UInt8) (h : (60 : UInt8) ∉ a) : nextU a = a.length := by
  have := nextU_plain a [] h
  rw [List.append_nil, nextU, Nat.add_zero] at this; exact this
theorem nextU_mark (u : List UInt8) (h : markB u = true) : nextU u = 0 := by
  cases u with
  | nil => rfl
  | cons c v => rw [nextU, if_pos h]
theorem nextU_not (u : List UInt8) (h : markB u = false) (hu : u ≠ []) : nextU u = nextU (u.drop 1) + 1 := by
  cases u with
  | nil => exact absurd rfl hu
  | cons c v => rw [nextU, if_neg (by rw [h]; decide)]; rfl
theorem nextU_is (u : List UInt8) (h : nextU u < u.length) : markB (u.drop (nextU u)) = true := by
  induction u with
  | nil => simp at h
  | cons c v ih =>
    rw [nextU]
    by_cases hm : markB (c :: v) = true
    · rw [if_pos hm]; exact hm
    · rw [if_neg hm, List.drop_succ_cons]
      rw [nextU, if_neg hm, List.length_cons] at h
      exact ih (by omega)
theorem nextU_before (u : List UInt8) (i : Nat) (h : i < nextU u) : markB (u.drop i) = false := by
  induction u generalizing i with
  | nil => simp [nextU] at h
  | cons c v ih =>
    rw [nextU] at h
    by_cases hm : markB (c :: v) = true
    · rw [if_pos hm] at h; omega
    · rw [if_neg hm] at h
      cases i with
      | zero => simpa using hm
      | succ i => rw [List.drop_succ_cons]; exact ih i (by omega)
theorem nextU_at (u : List UInt8) (i : Nat) (h : i ≤ nextU u) : nextU (u.drop i) = nextU u - i := by
  induction i generalizing u with
  | zero => simp
  | succ i ih =>
    cases u with
    | nil => simp [nextU] at h
    | cons c v =>
      rw [nextU] at h ⊢
      by_cases hm : markB (c :: v) = true
      · rw [if_pos hm] at h; omega
      · rw [if_neg hm] at h ⊢
        rw [List.drop_succ_cons, ih v (by omega)]; omega
/-- A place within a text. -/
def inside (n : Nat) (p : Int) : Nat := (min (max p 0) n).toNat
theorem inside_le (n : Nat) (p : Int) : inside n p ≤ n := by unfold inside; omega
theorem inside_nat (n k : Nat) (h : k ≤ n) : inside n (k : Int) = k := by unfold inside; omega
theorem lt_index (l : List UInt8) : (Lib.indexByte l 60 = -1 ∧ (60 : UInt8) ∉ l) ∨ ∃ a u, l = a ++ 60 :: u ∧ (60 : UInt8) ∉ a ∧ Lib.indexByte l 60 = a.length := by
  by_cases h : (60 : UInt8) ∈ l
  · right
    obtain ⟨a, u, e, hn⟩ := List.eq_append_cons_of_mem h
    exact ⟨a, u, e, hn, by rw [e]; exact index_some _ _ _ hn⟩
  · left; exact ⟨index_none _ _ h, h⟩
end Go.Proofs.YtodommehhcfccaaDoor.G
