-- pruned2
/- Proved: small laws of lists of lines, of keys in order, of the first and last byte of a text (chapter 5). No conditions. -/
import Derived.Test.YtmokjaddbmcopaaDoorG
import Derived.Lib.Bytealg
import Derived.Lib.LastIndexByte
namespace Go.Proofs.YtmokjaddbmcopaaDoor.G
open Go.RowKit Go.Proofs.YtmokjaddbmcopaaDoorW.PrintWords
set_option linter.unusedVariables false
set_option linter.unusedSimpArgs false

/-! The least number of which something is so: a measure of a loop that is told by rounds. -/
theorem least {p : Nat → Prop} : ∀ n k, k ≤ n → p k → ∃ k, p k ∧ ∀ j, p j → k ≤ j := by
  intro n
  induction n with
  | zero => intro k hk h; exact ⟨k, h, fun j _ => by omega⟩
  | succ n ih =>
    intro k hk h
    by_cases c : ∃ j, p j ∧ j < k
    · obtain ⟨j, hj, hl⟩ := c; exact ih j (by omega) hj
    · exact ⟨k, h, fun j hj => Nat.le_of_not_lt fun hl => c ⟨j, hj, hl⟩⟩
open Classical in
noncomputable def leastN (p : Nat → Prop) : Nat := if h : ∃ k, p k then Classical.choose (least h.choose h.choose (Nat.le_refl _) h.choose_spec) else 0
theorem leastN_has {p : Nat → Prop} (h : ∃ k, p k) : p (leastN p) := by
  unfold leastN; rw [dif_pos h]; exact (Classical.choose_spec (least h.choose h.choose (Nat.le_refl _) h.choose_spec)).1
theorem leastN_le {p : Nat → Prop} {k : Nat} (h : p k) : leastN p ≤ k := by
  have hh : ∃ k, p k := ⟨k, h⟩
  unfold leastN; rw [dif_pos hh]; exact (Classical.choose_spec (least hh.choose hh.choose (Nat.le_refl _) hh.choose_spec)).2 k h

/-! Bytes in texts -/
theorem index_none (l : List UInt8) (c : UInt8) (h : c ∉ l) : Lib.indexByte l c = -1 := by
  induction l with
  | nil => rfl
  | cons a l ih =>
    have h1 : ¬ (a == c) = true := by intro e; exact h (by rw [eq_of_beq e]; exact List.mem_cons_self ..)
    rw [Lib.indexByte, if_neg h1, ih (fun e => h (List.mem_cons_of_mem _ e)), if_pos (by decide)]
theorem index_some (l q : List UInt8) (c : UInt8) (h : c ∉ l) : Lib.indexByte (l ++ c :: q) c = l.length := by
  induction l with
  | nil => simp [Lib.indexByte]
  | cons a l ih =>
    have h1 : ¬ (a == c) = true := by intro e; exact h (by rw [eq_of_beq e]; exact List.mem_cons_self ..)
    rw [List.cons_append, Lib.indexByte, if_neg h1, ih (fun e => h (List.mem_cons_of_mem _ e)), if_neg (by simp <;> omega)]
    simp
theorem data_at (l : List UInt8) (i : Nat) : (((bs l).data[i]!).toNat : Int) = at_ l i := by
  simp [bs, at_, getElem!_def, List.getD]
  split <;> simp_all <;> rfl
theorem at_mem {l : List UInt8} {c : UInt8} (h : c ∉ l) (i : Nat) (hi : i < l.length) : at_ l i ≠ (c.toNat : Int) := by
  intro e
  apply h
  have : l[i] = c := by
    apply UInt8.toNat_inj.1
    have e2 : ((l[i].toNat : Nat) : Int) = (c.toNat : Int) := by simpa [at_, List.getD, hi] using e
    exact_mod_cast e2
  rw [← this]; exact List.getElem_mem hi
theorem at_append_left {p q : List UInt8} {i : Nat} (h : i < p.length) : at_ (p ++ q) i = at_ p i := by
  simp [at_, List.getD, List.getElem?_append_left h]
theorem at_append_right {p q : List UInt8} {i : Nat} (h : p.length ≤ i) : at_ (p ++ q) i = at_ q (i - p.length) := by
  simp [at_, List.getD, List.getElem?_append_right h]
theorem at_take {l : List UInt8} {i n : Nat} (h : i < n) : at_ (l.take n) i = at_ l i := by
  simp [at_, List.getD, List.getElem?_take, h]
theorem last_line (p s q : List UInt8) (i : Nat) (hp : p = [] ∨ ∃ p', p = p' ++ [10]) (hs : (10 : UInt8) ∉ s) (h1 : p.length ≤ i) (h2 : i ≤ p.length + s.length) :
    Lib.lastIndexByte (bs ((p ++ s ++ q).take i)) 10 + 1 = p.length := by
  have hsz : (bs ((p ++ s ++ q).take i)).size = i := by simp [size_bs]; omega
  have hin : ∀ j, p.length ≤ j → j < i → at_ (p ++ s ++ q) j ≠ 10 := by
    intro j a b
    rw [List.append_assoc, at_append_right a, at_append_left (by omega)]
    exact at_mem hs _ (by omega)
  rcases Lib.lastIndexByte_spec (bs ((p ++ s ++ q).take i)) 10 with ⟨e, hn⟩ | ⟨j, hj, e, hc, hn⟩
  · rw [e]
    rcases hp with rfl | ⟨p', rfl⟩
    · rfl
    · exfalso
      simp only [List.length_append, List.length_singleton] at h1 h2
      refine hn p'.length (by rw [hsz]; omega) ?_
      rw [data_at, at_take (by omega), List.append_assoc, at_append_left (by simp), at_append_right (Nat.le_refl _)]
      simp [at_]
  · rw [e]
    rw [hsz] at hj hn
    rw [data_at, at_take hj] at hc
    rcases hp with rfl | ⟨p', rfl⟩
    · exact absurd hc (hin j (Nat.zero_le _) hj)
    · simp only [List.length_append, List.length_singleton] at h1 h2 hin ⊢
      have a1 : ¬ p'.length + 1 ≤ j := fun a => hin j a hj hc
      have a2 : ¬ j < p'.length := fun a => by
        refine hn p'.length a (by omega) ?_
        rw [data_at, at_take (by omega), List.append_assoc, at_append_left (by simp), at_append_right (Nat.le_refl _)]
        simp [at_]
      omega

/-! Texts in order -/
theorem less_irrefl (a : List UInt8) : Op.bytesLess a a = false := by
  induction a with
  | nil => rfl
  | cons x a ih => simp [Op.bytesLess, ih]
theorem less_trans {a b c : List UInt8} (h : Op.bytesLess a b = true) (h2 : Op.bytesLess b c = true) : Op.bytesLess a c = true := by
  induction a generalizing b c with
  | nil => cases b <;> cases c <;> simp_all [Op.bytesLess]
  | cons x a ih =>
    cases b with
    | nil => simp [Op.bytesLess] at h
    | cons y b =>
      cases c with
      | nil => simp [Op.bytesLess] at h2
      | cons z c =>
        simp only [Op.bytesLess, Bool.or_eq_true, Bool.and_eq_true, decide_eq_true_eq, beq_iff_eq, UInt8.lt_iff_toNat_lt] at h h2 ⊢
        rcases h with h | ⟨rfl, h⟩ <;> rcases h2 with h2 | ⟨rfl, h2⟩
        · left; omega
        · left; omega
        · left; omega
        · right; exact ⟨rfl, ih h h2⟩
theorem less_tri (a b : List UInt8) (h : Op.bytesLess a b = false) (h2 : Op.bytesLess b a = false) : a = b := by
  have := less_or a b; rw [h, h2] at this; simpa using this
/-! Lines -/
abbrev Ln := List UInt8 × List UInt8
def lineOf (r : Ln) : List UInt8 := r.1 ++ 32 :: r.2
def linesAhead (l : List Ln) : List UInt8 := l.flatMap fun r => lineOf r ++ [10]
def textOf : List Ln → List UInt8
  | [] => []
  | [r] => lineOf r
  | r :: s :: l => lineOf r ++ 10 :: textOf (s :: l)
def behindOf : List Ln → List UInt8
  | [] => []
  | l => 10 :: textOf l
theorem textOf_cons (r : Ln) (l : List Ln) : textOf (r :: l) = lineOf r ++ behindOf l := by
  cases l with
  | nil => simp [textOf, behindOf]
  | cons s l => rfl
theorem textOf_split (a : List Ln) (r : Ln) (b : List Ln) : textOf (a ++ r :: b) = linesAhead a ++ lineOf r ++ behindOf b := by
  induction a with
  | nil => simp [linesAhead, textOf_cons]
  | cons x a ih =>
    rw [List.cons_append, textOf_cons]
    have : behindOf (a ++ r :: b) = 10 :: textOf (a ++ r :: b) := by cases a <;> rfl
    rw [this, ih]
    simp [linesAhead, List.append_assoc]
structure PlainLn (r : Ln) : Prop where
  some_ : r.1 ≠ []
  k10 : (10 : UInt8) ∉ r.1
  k32 : (32 : UInt8) ∉ r.1
  r10 : (10 : UInt8) ∉ r.2
  k40 : r.1.length ≤ 40
  r40 : r.2.length ≤ 40
def LtLn (a b : Ln) : Prop := Op.bytesLess a.1 b.1 = true
structure GoodLn (l : List Ln) : Prop where
  plain : ∀ r ∈ l, PlainLn r
  rise : l.Pairwise LtLn
theorem PlainLn.line10 {r : Ln} (h : PlainLn r) : (10 : UInt8) ∉ lineOf r := by
  intro e
  simp only [lineOf, List.mem_append, List.mem_cons] at e
  rcases e with e | e | e
  · exact h.k10 e
  · exact absurd e (by decide)
  · exact h.r10 e
theorem ahead_ends (a : List Ln) : linesAhead a = [] ∨ ∃ p, linesAhead a = p ++ [10] := by
  rcases List.eq_nil_or_concat a with rfl | ⟨b, x, rfl⟩
  · left; rfl
  · right; exact ⟨b.flatMap (fun r => lineOf r ++ [10]) ++ lineOf x, by simp [linesAhead]⟩
theorem ahead_append (a b : List Ln) : linesAhead (a ++ b) = linesAhead a ++ linesAhead b := by simp [linesAhead]
theorem ahead_one (r : Ln) : linesAhead [r] = lineOf r ++ [10] := by simp [linesAhead]
theorem lineOf_pos (r : Ln) : 1 ≤ (lineOf r).length := by simp [lineOf]; omega
theorem length_behind (b : List Ln) (h : b ≠ []) : (behindOf b).length = 1 + (textOf b).length := by cases b <;> simp_all [behindOf]; omega
def lookR (l : List Ln) (key : List UInt8) : Option (List UInt8) := (l.find? fun r => r.1 == key).map (·.2)
def linesGo : List UInt8 → List UInt8 → List UInt8 → Bool → List Ln
  | [], k, r, _ => [(k, r)]
  | c :: l, k, r, b => if c = 10 then (k, r) :: linesGo l [] [] false else if b then linesGo l k (r ++ [c]) true else if c = 32 then linesGo l k r true else linesGo l (k ++ [c]) r false
def linesOf (t : List UInt8) : List Ln := if t = [] then [] else linesGo t [] [] false
theorem ahead_split (m : List Ln) (d : Nat) (h : d < (linesAhead m).length) : ∃ m1 r m2, m = m1 ++ r :: m2 ∧ (linesAhead m1).length ≤ d ∧ d ≤ (linesAhead m1).length + (lineOf r).length := by
  induction m generalizing d with
  | nil => simp [linesAhead] at h
  | cons x m ih =>
    have e : (linesAhead (x :: m)).length = (lineOf x).length + 1 + (linesAhead m).length := by simp [linesAhead]; omega
    rw [e] at h
    by_cases c : d ≤ (lineOf x).length
    · exact ⟨[], x, m, rfl, by simp [linesAhead], by simp [linesAhead]; exact c⟩
    · obtain ⟨m1, r, m2, rfl, h1, h2⟩ := ih (d - ((lineOf x).length + 1)) (by omega)
      have e2 : (linesAhead (x :: m1)).length = (lineOf x).length + 1 + (linesAhead m1).length := by simp [linesAhead]; omega
      exact ⟨x :: m1, r, m2, rfl, by rw [e2]; omega, by rw [e2]; omega⟩
theorem text_le (l : List Ln) : (textOf l).length ≤ (linesAhead l).length := by
  induction l with
  | nil => simp [textOf]
  | cons r l ih =>
    have e2 : (linesAhead (r :: l)).length = (lineOf r).length + 1 + (linesAhead l).length := by simp [linesAhead]; omega
    rw [textOf_cons, List.length_append, e2]
    cases l with
    | nil => simp [behindOf, linesAhead]
    | cons s l => rw [length_behind _ (by simp)]; omega
theorem ahead_le (a b : List Ln) (h : b ≠ []) : (linesAhead a).length + 1 ≤ (textOf (a ++ b)).length := by
  cases b with
  | nil => exact absurd rfl h
  | cons r b => rw [textOf_split]; simp; have := lineOf_pos r; omega
theorem ahead_len (a b : List Ln) : (linesAhead (a ++ b)).length = (linesAhead a).length + (linesAhead b).length := by rw [ahead_append, List.length_append]
theorem ahead_len1 (r : Ln) : (linesAhead [r]).length = (lineOf r).length + 1 := by simp [ahead_one]
def answer (o : Option (List UInt8)) : ByteArray × Bool := match o with | some r => (bs r, true) | none => (⟨#[]⟩, false)
theorem lookR_skip (a m : List Ln) (key : List UInt8) (h : ∀ r ∈ a, r.1 ≠ key) : lookR (a ++ m) key = lookR m key := by
  unfold lookR
  rw [List.find?_append, List.find?_eq_none.mpr (by intro x hx; simpa using h x hx)]
  rfl
theorem lookR_stop (m b : List Ln) (key : List UInt8) (h : ∀ r ∈ b, r.1 ≠ key) : lookR (m ++ b) key = lookR m key := by
  unfold lookR
  have e : List.find? (fun r : Ln => r.1 == key) b = none := List.find?_eq_none.mpr (by intro x hx; simpa using h x hx)
  rw [List.find?_append, e, Option.or_none]
theorem lookR_here (r : Ln) (m : List Ln) : lookR (r :: m) r.1 = some r.2 := by simp [lookR]
def maxOf (p : Nat → Bool) : Nat → Nat
  | 0 => 0
  | n + 1 => if p (n + 1) then n + 1 else maxOf p n
theorem maxOf_le (p : Nat → Bool) (n : Nat) : maxOf p n ≤ n := by
  induction n with
  | zero => exact Nat.le_refl _
  | succ n ih => rw [maxOf]; split <;> omega
def isKey (l : List Ln) (u : List UInt8) (n : Nat) : Bool := (lookR l (u.take n)).isSome
def longest (l : List Ln) (u : List UInt8) (most : Int) : Nat := maxOf (isKey l u) (min most u.length).toNat
end Go.Proofs.YtmokjaddbmcopaaDoor.G
