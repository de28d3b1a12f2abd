/- Proved: which name is the longest at a place, in the program's list of names. No conditions. -/
import Derived.Test.YtpcpcimbkdogcaaDoorGC
namespace Go.Proofs.YtpcpcimbkdogcaaDoor.G
open Go.RowKit Go.Proofs.YtpcpcimbkdogcaaDoorW.PrintWords
set_option linter.unusedVariables false
set_option linter.unusedSimpArgs false
theorem longN_ge (u : List UInt8) (n : Nat) (h : isName (u.take n) = true) (hn : n ≤ u.length) : n ≤ longN u := by
  have h32 := (isName_plain _ h).2.2.2
  rw [List.length_take] at h32
  exact maxOf_ge _ _ _ h (by omega)
theorem longN_is (u : List UInt8) (h : 0 < longN u) : isName (u.take (longN u)) = true := maxOf_is (isKey rowsN u) _ h
theorem longN_le (u : List UInt8) : longN u ≤ u.length ∧ longN u ≤ 32 := by
  have := maxOf_le (isKey rowsN u) (min (32 : Int) u.length).toNat
  unfold longN longest; omega
/-- In a name a semicolon stands only last. -/
theorem name_semi (a b : List UInt8) (h : isName (a ++ 59 :: b) = true) : b = [] := by
  obtain ⟨r, hr, e⟩ := (isName_mem _).1 h
  obtain ⟨p, c, h1, h2, _⟩ := (rowsN_row r hr).key
  rw [h1] at e
  rcases List.eq_nil_or_concat b with rfl | ⟨b', x, rfl⟩
  · rfl
  · exfalso
    rw [List.concat_eq_append, show a ++ 59 :: (b' ++ [x]) = (a ++ 59 :: b') ++ [x] by simp] at e
    have := (List.append_inj' e rfl).1
    have h3 := h2 59 (by rw [this]; simp)
    exact absurd h3 (by decide)
theorem name_word (a : List UInt8) (c : UInt8) (h : isName (a ++ [c]) = true) : (∀ x ∈ a, wordB x = true) ∧ (wordB c = true ∨ c = 59) := by
  obtain ⟨r, hr, e⟩ := (isName_mem _).1 h
  obtain ⟨p, d, h1, h2, h3⟩ := (rowsN_row r hr).key
  rw [h1] at e
  obtain ⟨e1, e2⟩ := List.append_inj' e rfl
  simp at e2
  subst e1; subst e2
  exact ⟨h2, h3⟩
theorem longN_name (k u : List UInt8) (h : isName k = true) : k.length ≤ longN (k ++ u) := longN_ge _ _ (by rw [List.take_left]; exact h) (by simp)
theorem longN_blank (k u : List UInt8) (h : isName k = true) : longN (k ++ 32 :: u) = k.length := by
  have h1 := longN_name k (32 :: u) h
  rcases Nat.lt_or_ge k.length (longN (k ++ 32 :: u)) with c | c
  · exfalso
    have h2 := longN_is (k ++ 32 :: u) (by omega)
    refine (isName_plain _ h2).2.1 ?_
    obtain ⟨m, hm⟩ : ∃ m, longN (k ++ 32 :: u) = k.length + (m + 1) := ⟨longN (k ++ 32 :: u) - k.length - 1, by omega⟩
    rw [hm, List.take_length_add_append]; simp
  · omega
theorem longN_semi (k u : List UInt8) (h : isName (k ++ [59]) = true) : longN (k ++ [59] ++ u) = k.length + 1 := by
  have h1 := longN_name (k ++ [59]) u h
  rw [List.length_append, List.length_singleton] at h1
  rcases Nat.lt_or_ge (k.length + 1) (longN (k ++ [59] ++ u)) with c | c
  · exfalso
    have h2 := longN_is (k ++ [59] ++ u) (by omega)
    have hl := (longN_le (k ++ [59] ++ u)).1
    obtain ⟨m, hm⟩ : ∃ m, longN (k ++ [59] ++ u) = (k ++ [59]).length + (m + 1) := ⟨longN (k ++ [59] ++ u) - k.length - 2, by rw [List.length_append, List.length_singleton]; omega⟩
    rw [hm, List.take_length_add_append] at h2
    have h3 := name_semi k (u.take (m + 1)) (by simpa using h2)
    have := congrArg List.length h3
    rw [hm] at hl
    simp only [List.length_take, List.length_append, List.length_nil, List.length_singleton] at this hl
    omega
  · omega
theorem nthN_name (n : Nat) : isName (nthN n) = true := by
  obtain ⟨r, hr, e⟩ := nthN_mem n
  exact (isName_mem _).2 ⟨r, hr, e⟩
theorem nthN_len (n : Nat) : 2 ≤ (nthN n).length ∧ (nthN n).length ≤ 32 := by
  obtain ⟨r, hr, e⟩ := nthN_mem n
  have := rowsN_row r hr
  rw [← e]; exact ⟨this.k2, this.k32⟩
theorem snoc_of (k : List UInt8) (h : 1 ≤ k.length) : ∃ p c, k = p ++ [c] := by
  rcases List.eq_nil_or_concat k with rfl | ⟨p, c, rfl⟩
  · simp at h
  · exact ⟨p, c, by simp⟩
theorem isShort_snoc (p : List UInt8) (c : UInt8) (h : isName (p ++ [c]) = true) : isShort (p ++ [c]) = ((c.toNat : Int) != 59) := by
  unfold isShort Lib.hasSuffix
  rw [h, Bool.true_and]
  by_cases e : c = 59
  · subst e
    have h1 : List.isSuffixOf [59] (p ++ [59]) = true := by rw [List.isSuffixOf_iff_suffix]; exact List.suffix_append _ _
    rw [h1]; rfl
  · have h1 : List.isSuffixOf [59] (p ++ [c]) = false := by
      rw [← Bool.not_eq_true, List.isSuffixOf_iff_suffix]
      rintro ⟨t, ht⟩
      have := List.append_inj' ht rfl
      simp at this; exact e this.2.symm
    rw [h1]
    have : ¬ ((c.toNat : Int) = 59) := fun x => e (u8_nat.1 (by show c.toNat = 59; omega))
    simp [bne, this]
theorem nameP_of {k l v : List UInt8} (h : lookR rowsN k = some v) (h2 : lookR rowsN l = some v) : nameP l = nameP k := by
  unfold nameP nameV; rw [h, h2]
theorem twin_name (k : List UInt8) (h : isName k = true) (hn : ¬ ∃ p, k = p ++ [59]) : isName (k ++ [59]) = true ∧ nameP (k ++ [59]) = nameP k := by
  obtain ⟨r, hr, rfl⟩ := (isName_mem k).1 h
  have ht := twinN r hr hn
  have h1 := lookN r hr
  have h2 : lookR rowsN (r.1 ++ [59]) = some r.2 := lookN _ ht
  exact ⟨(isName_mem _).2 ⟨_, ht, rfl⟩, nameP_of h1 h2⟩
theorem wordI_B (c : UInt8) : wordI (c.toNat : Int) = wordB c := by revert c; exact u8_all (by decide +kernel)
end Go.Proofs.YtpcpcimbkdogcaaDoor.G
