-- pruned2
/- Proved: what stands in a tag (chapter 8), over lists of bytes: blanks, names, values. No conditions. -/
import Derived.Test.YtmokjaddbmcopaaDoorGL
namespace Go.Proofs.YtmokjaddbmcopaaDoor.G
open Go.RowKit Go.Proofs.YtmokjaddbmcopaaDoorW.PrintWords
set_option linter.unusedVariables false
set_option linter.unusedSimpArgs false
def spU : List UInt8 → Nat
  | [] => 0
  | c :: v => if spaceB c = true then spU v + 1 else 0
theorem spU_le (u : List UInt8) : spU u ≤ u.length := by
  induction u with
  | nil => exact Nat.le_refl _
  | cons c v ih => rw [spU, List.length_cons]; split <;> omega
def wdU (e : List UInt8) : List UInt8 → Nat
  | [] => 0
  | c :: v => if spaceB c = true then 0 else if c ∈ e then 0 else wdU e v + 1
theorem wdU_le (e u : List UInt8) : wdU e u ≤ u.length := by
  induction u with
  | nil => exact Nat.le_refl _
  | cons c v ih => rw [wdU, List.length_cons]; split; omega; split <;> omega
def upU (e u : List UInt8) : Nat := wdU e (u.drop 1) + 1
theorem upU_le (e u : List UInt8) (h : u ≠ []) : upU e u ≤ u.length := by
  have := wdU_le e (u.drop 1)
  rw [List.length_drop] at this
  have : 0 < u.length := List.length_pos_iff.2 h
  unfold upU; omega
theorem upU_pos (e u : List UInt8) : 1 ≤ upU e u := by unfold upU; omega
def toU (q : UInt8) : List UInt8 → Option Nat
  | [] => none
  | c :: v => if c = q then some 0 else (toU q v).map (· + 1)
theorem toU_is (q : UInt8) (u : List UInt8) : (toU q u = none ∧ q ∉ u) ∨ ∃ a v, u = a ++ q :: v ∧ q ∉ a ∧ toU q u = some a.length := by
  induction u with
  | nil => exact .inl ⟨rfl, by simp⟩
  | cons c v ih =>
    rw [toU]
    by_cases h : c = q
    · rw [if_pos h]; exact .inr ⟨[], v, by rw [h]; rfl, by simp, rfl⟩
    · rw [if_neg h]
      rcases ih with ⟨e, hn⟩ | ⟨a, w, e, hn, e2⟩
      · exact .inl ⟨by rw [e]; rfl, by rw [List.mem_cons]; rintro (x | x); exact h x.symm; exact hn x⟩
      · exact .inr ⟨c :: a, w, by rw [e]; rfl, by rw [List.mem_cons]; rintro (x | x); exact h x.symm; exact hn x, by rw [e2]; rfl⟩
def qtU : List UInt8 → List UInt8 × Nat × Bool
  | [] => ([], 0, false)
  | q :: v => match toU q v with
    | some n => (v.take n, n + 2, true)
    | none => ([], 1, false)
def vlU (w : List UInt8) : List UInt8 × Nat × Bool :=
  match w with
  | [] => ([], 0, true)
  | c :: _ => if c = 34 ∨ c = 39 then qtU w else if c = 62 then ([], 0, true) else (w.take (upU [62] w), upU [62] w, true)
def valU (u : List UInt8) : List UInt8 × Nat × Bool :=
  match u.drop (spU u) with
  | 61 :: v => ((vlU (v.drop (spU v))).1, spU u + 1 + spU v + (vlU (v.drop (spU v))).2.1, (vlU (v.drop (spU v))).2.2)
  | _ => ([], spU u, true)
theorem valU_eq (u v : List UInt8) (h : u.drop (spU u) = 61 :: v) : valU u = ((vlU (v.drop (spU v))).1, spU u + 1 + spU v + (vlU (v.drop (spU v))).2.1, (vlU (v.drop (spU v))).2.2) := by
  unfold valU; rw [h]; rfl
theorem valU_no (u : List UInt8) (h : (u.drop (spU u)).head?.any (· == 61) = false) : valU u = ([], spU u, true) := by
  unfold valU
  split
  · rename_i v e; rw [e] at h; simp at h
  · rfl
theorem vlU_quote (w : List UInt8) (h : w.head?.any (· == 34) = true ∨ w.head?.any (· == 39) = true) : vlU w = qtU w := by
  cases w with
  | nil => simp at h
  | cons c v =>
    show (if c = 34 ∨ c = 39 then qtU (c :: v) else _) = _
    rw [if_pos (by simpa using h)]
theorem vlU_else (w : List UInt8) (h1 : w.head?.any (· == 34) = false) (h2 : w.head?.any (· == 39) = false) : vlU w = if w.head?.any (· == 62) = true ∨ w = [] then ([], 0, true) else (w.take (upU [62] w), upU [62] w, true) := by
  cases w with
  | nil => rw [if_pos (.inr rfl)]; rfl
  | cons c v =>
    have n1 : c ≠ 34 := by simpa using h1
    have n2 : c ≠ 39 := by simpa using h2
    show (if c = 34 ∨ c = 39 then qtU (c :: v) else if c = 62 then ([], 0, true) else ((c :: v).take (upU [62] (c :: v)), upU [62] (c :: v), true)) = _
    rw [if_neg (by rintro (x | x); exact n1 x; exact n2 x)]
    by_cases n3 : c = 62
    · rw [if_pos n3, if_pos (.inl (by simpa using n3))]
    · rw [if_neg n3, if_neg (by simpa using n3)]
theorem qtU_le (u : List UInt8) : (qtU u).2.1 ≤ u.length ∧ (qtU u).1.length ≤ u.length := by
  cases u with
  | nil => exact ⟨Nat.le_refl _, Nat.le_refl _⟩
  | cons q v =>
    show (match toU q v with | some n => ((v.take n, n + 2, true) : List UInt8 × Nat × Bool) | none => ([], 1, false)).2.1 ≤ _ ∧ (match toU q v with | some n => ((v.take n, n + 2, true) : List UInt8 × Nat × Bool) | none => ([], 1, false)).1.length ≤ _
    rcases toU_is q v with ⟨e, _⟩ | ⟨a, w, e, _, e2⟩
    · rw [e]; simp
    · rw [e2, e]; simp; omega
theorem vlU_le (w : List UInt8) : (vlU w).2.1 ≤ w.length ∧ (vlU w).1.length ≤ w.length := by
  unfold vlU
  cases w with
  | nil => exact ⟨Nat.le_refl _, Nat.le_refl _⟩
  | cons c v =>
    simp only []
    split
    · exact qtU_le _
    · split
      · simp
      · have := upU_le [62] (c :: v) (by simp)
        refine ⟨this, ?_⟩
        rw [List.length_take]; omega
theorem valU_le (u : List UInt8) : (valU u).2.1 ≤ u.length ∧ (valU u).1.length ≤ u.length := by
  have h1 := spU_le u
  have hl : (u.drop (spU u)).length = u.length - spU u := List.length_drop
  unfold valU
  split
  · rename_i v e
    rw [e, List.length_cons] at hl
    have h2 := spU_le v
    have h3 := vlU_le (v.drop (spU v))
    rw [List.length_drop] at h3
    simp only []
    omega
  · exact ⟨h1, Nat.zero_le _⟩
def addA (l : List (List UInt8 × List UInt8)) (a : List UInt8 × List UInt8) : List (List UInt8 × List UInt8) := if l.any (fun b => b.1 == a.1) then l else l ++ [a]
end Go.Proofs.YtmokjaddbmcopaaDoor.G
