/- Proved: what stands in a tag (chapter 8), over lists of bytes: blanks, names, values. No conditions. -/
import Derived.Test.YtodommehhcfccaaDoorGL
namespace Go.Proofs.YtodommehhcfccaaDoor.G
open Go.RowKit Go.Proofs.YtodommehhcfccaaDoorW.PrintWords
set_option linter.unusedVariables false
set_option linter.unusedSimpArgs false
/-- How many blanks are ahead. -/
def spU : List UInt8 → Nat
  | [] => 0
  | c :: v => if spaceB c = true then spU v + 1 else 0
theorem spU_le (u : List UInt8) : spU u ≤ u.length := by
  induction u with
  | nil => exact Nat.le_refl _
  | cons c v ih => rw [spU, List.length_cons]; split <;> omega
/-- How many bytes are ahead of the next blank, or of one of some bytes. -/
def wdU (e : List UInt8) : List UInt8 → Nat
  | [] => 0
  | c :: v => if spaceB c = true then 0 else if c ∈ e then 0 else wdU e v + 1
theorem wdU_le (e u : List UInt8) : wdU e u ≤ u.length := by
  induction u with
  | nil => exact Nat.le_refl _
  | cons c v ih => rw [wdU, List.length_cons]; split; omega; split <;> omega
/-- The same, but one byte at least. -/
def upU (e u : List UInt8) : Nat := wdU e (u.drop 1) + 1
theorem upU_le (e u : List UInt8) (h : u ≠ []) : upU e u ≤ u.length := by
  have := wdU_le e (u.drop 1)
  rw [List.length_drop] at this
  have : 0 < u.length := List.length_pos_iff.2 h
  unfold upU; omega
theorem upU_pos (e u : List UInt8) : 1 ≤ upU e u := by unfold upU; omega
/-- How many bytes are ahead of a byte. -/
def toU (q : UInt8) : List UInt8 → Option Nat
  | [] => none
  | c :: v => if c = q then some 0 else (toU q v).map (· + 1)
theorem toU_is (q : UInt8) (u : List UInt8) : (toU q u = none ∧ q ∉ u) ∨ ∃ a v, u = a ++ q :: v ∧ q ∉ a ∧ toU q u = some a.length := by
  induction u with
  | nil => exact .inl ⟨rfl, by simp⟩
  | cons c v ih =>
    rw [toU]
    by_cases h : c = q
    · rw [if_pos h]; exact .inr ⟨[], v, by rw [h]; rfl, by simp, rfl⟩
    · rw [if_neg h]
      rcases ih with ⟨e, hn⟩ | ⟨a, w, e, hn, e2⟩
      · exact .inl ⟨by rw [e]; rfl, by rw [List.mem_cons]; rintro (x | x); exact h x.symm; exact hn x⟩
      · exact .inr ⟨c :: a, w, by rw [e]; rfl, by rw [List.mem_cons]; rintro (x | x); exact h x.symm; exact hn x, by rw [e2]; rfl⟩
/-- A value in quotes: what it is, and how many bytes are read. -/
def qtU : List UInt8 → List UInt8 × Nat × Bool
  | [] => ([], 0, false)
  | q :: v => match toU q v with
    | some n => (v.take n, n + 2, true)
    | none => ([], 1, false)
/-- A value: what it is, how many bytes are read, and whether it is whole. -/
def vlU (w : List UInt8) : List UInt8 × Nat × Bool :=
  match w with
  | [] => ([], 0, true)
  | c :: _ => if c = 34 ∨ c = 39 then qtU w else if c = 62 then ([], 0, true) else (w.take (upU [62] w), upU [62] w, true)
def valU (u : List UInt8) : List UInt8 × Nat × Bool :=
  match u.drop (spU u) with
  | 61 :: v => ((vlU (v.drop (spU v))).1, spU u + 1 + spU v + (vlU (v.drop (spU v))).2.1, (vlU (v.drop (spU v))).2.2)
  | _ => ([], spU u, true)
theorem valU_eq (u v : List UInt8) (h : u.drop (spU u) = 61 :: v) : valU u = ((vlU (v.drop (spU v))).1, spU u + 1 + spU v + (vlU (v.drop (spU v))).2.1, (vlU (v.drop (spU v))).2.2) := by
  unfold valU; rw [h]; rfl
theorem valU_no (u : List UInt8) (h : (u.drop (spU u)).head?.any (· == 61) = false) : valU u = ([], spU u, true) := by
  unfold valU
  split
  · rename_i v e; rw [e] at h; simp at h
  · rfl
theorem vlU_quote (w : List UInt8) (h : w.head?.any (· == 34) = true ∨ w.head?.any (· == 39) = true) : vlU w = qtU w := by
  cases w with
  | nil => simp at h
  | cons c v =>
    show (if c = 34 ∨ c = 39 then qtU (c :: v) else _) = _
    rw [if_pos (by simpa using h)]
theorem vlU_else (w : List UInt8) (h1 : w.head?.any (· == 34) = false) (h2 : w.head?.any (· == 39) = false) : vlU w = if w.head?.any (· == 62) = true ∨ w = [] then ([], 0, true) else (w.take (upU [62] w), upU [62] w, true) := by
  cases w with
  | nil => rw [if_pos (.inr rfl)]; rfl
  | cons c v =>
    have n1 : c ≠ 34 := by simpa using h1
    have n2 : c ≠ 39 := by simpa using h2
    show (if c = 34 ∨ c = 39 then qtU (c :: v) else if c = 62 then ([], 0, true) else ((c :: v).take (upU [62] (c :: v)), upU [62] (c :: v), true)) = _
    rw [if_neg (by rintro (x | x); exact n1 x; exact n2 x)]
    by_cases n3 : c = 62
    · rw [if_pos n3, if_pos (.inl (by simpa using n3))]
    · rw [if_neg n3, if_neg (by simpa using n3)]
theorem qtU_le (u : List UInt8) : (qtU u).2.1 ≤ u.length ∧ (qtU u).1.length ≤ u.length := by
  cases u with
  | nil => exact ⟨Nat.le_refl _, Nat.le_refl _⟩
  | cons q v =>
    show (match toU q v with | some n => ((v.take n, n + 2, true) : List UInt8 × Nat × Bool) | none => ([], 1, false)).2.1 ≤ _ ∧ (match toU q v with | some n => ((v.take n, n + 2, true) : List UInt8 × Nat × Bool) | none => ([], 1, false)).1.length ≤ _
    rcases toU_is q v with ⟨e, _⟩ | ⟨a, w, e, _, e2⟩
    · rw [e]; simp
    · rw [e2, e]; simp; omega
theorem vlU_le (w : List UInt8) : (vlU w).2.1 ≤ w.length ∧ (vlU w).1.length ≤ w.length := by
  unfold vlU
  cases w with
  | nil => exact ⟨Nat.le_refl _, Nat.le_refl _⟩
  | cons c v =>
    simp only []
    split
    · exact qtU_le _
    · split
      · simp
      · have := upU_le [62] (c :: v) (by simp)
        refine ⟨this, ?_⟩
        rw [List.length_take]; omega
theorem valU_le (u : List UInt8) : (valU u).2.1 ≤ u.length ∧ (valU u).1.length ≤ u.length := by
  have h1 := spU_le u
  have hl : (u.drop (spU u)).length = u.length - spU u := List.length_drop
  unfold valU
  split
  · rename_i v e
    rw [e, List.length_cons] at hl
    have h2 := spU_le v
    have h3 := vlU_le (v.drop (spU v))
    rw [List.length_drop] at h3
    simp only []
    omega
  · exact ⟨h1, Nat.zero_le _⟩
/-- An attribute more, unless its name is there. -/
def addA (l : List (List UInt8 × List UInt8)) (a : List UInt8 × List UInt8) : List (List UInt8 × List UInt8) := if l.any (fun b => b.1 == a.1) then l else l ++ [a]
/-- A tag's attributes from a place on: the attributes, whether it closes itself, how many bytes are read, whether it ends. -/
noncomputable def readA : Nat → List (List UInt8 × List UInt8) → List UInt8 → List (List UInt8 × List UInt8) × Bool × Nat × Bool
  | 0, l, u => ([], false, u.length, false)
  | k + 1, l, u =>
    match u.drop (spU u) with
    | [] => ([], false, u.length, false)
    | c :: v =>
      if c = 62 then (l, false, spU u + 1, true)
      else if c = 47 then
        (if v.head? = some 62 then (l, true, spU u + 2, true)
        else ((readA k l v).1, (readA k l v).2.1, spU u + 1 + (readA k l v).2.2.1, (readA k l v).2.2.2))
      else
        let n := upU [47, 62, 61] (c :: v)
        let x := valU ((c :: v).drop n)
        if x.2.2 = false then ([], false, u.length, false)
        else
          let r := readA k (addA l (cleanL (low ((c :: v).take n)), cleanL (decS x.1 true))) ((c :: v).drop (n + x.2.1))
          (r.1, r.2.1, spU u + (n + x.2.1) + r.2.2.1, r.2.2.2)
end Go.Proofs.YtodommehhcfccaaDoor.G
