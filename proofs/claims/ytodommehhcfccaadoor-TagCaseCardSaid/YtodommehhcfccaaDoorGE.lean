/- Proved: what some names stand for, by the kernel's own look into the program's list; where the longest name ends. No conditions. -/
import Derived.Test.YtodommehhcfccaaDoorGR
namespace Go.Proofs.YtodommehhcfccaaDoor.G
open Go.RowKit Go.Proofs.YtodommehhcfccaaDoorW.PrintWords
set_option linter.unusedVariables false
set_option linter.unusedSimpArgs false
noncomputable def lookB (k v : List UInt8) : Bool := match lookR rowsN k with | some u => eqB u v | none => false
theorem lookB_is (k v : List UInt8) (h : lookB k v = true) : lookR rowsN k = some v := by
  unfold lookB at h
  cases e : lookR rowsN k with
  | none => rw [e] at h; cases h
  | some u => rw [e] at h; rw [eqB_eq h]
theorem name_is {k v : List UInt8} {a b : Nat} (h : lookB k v = true) (ha : (hexN (fstSp v) 0 == a) = true) (hb : (hexN (sndSp v) 0 == b) = true) : nameP k = (a, b) ∧ isName k = true := by
  have e := lookB_is k v h
  unfold nameP nameV isName
  rw [e]
  exact ⟨by simp [eq_of_beq ha, eq_of_beq hb], rfl⟩
theorem amp_is : nameP [97, 109, 112, 59] = (38, 0) ∧ isName [97, 109, 112, 59] = true := name_is (v := [50, 54]) (by decide +kernel) (by decide +kernel) (by decide +kernel)
theorem amp_short : isName [97, 109, 112] = true := (name_is (v := [50, 54]) (a := 38) (b := 0) (by decide +kernel) (by decide +kernel) (by decide +kernel)).2
theorem tilde_is : nameP [78, 111, 116, 69, 113, 117, 97, 108, 84, 105, 108, 100, 101, 59] = (8770, 824) ∧ isName [78, 111, 116, 69, 113, 117, 97, 108, 84, 105, 108, 100, 101, 59] = true := name_is (v := [50, 50, 52, 50, 32, 51, 51, 56]) (by decide +kernel) (by decide +kernel) (by decide +kernel)
theorem not_name {k : List UInt8} (h : (lookR rowsN k).isNone = true) : isName k = false := by unfold isName; cases e : lookR rowsN k with | none => rfl | some u => rw [e] at h; cases h
theorem amp_blank : nameP [97, 109, 112, 32] = (0, 0) ∧ isName [97, 109, 112, 32] = false := by
  have h : isName [97, 109, 112, 32] = false := not_name (by decide +kernel)
  exact ⟨nameP_not _ h, h⟩
theorem notit_is : longAt [110, 111, 116, 105, 116, 59] 0 = 3 := by
  rw [longAt, if_pos (by decide)]
  show ((maxOf (isKey rowsN [110, 111, 116, 105, 116, 59]) 6 : Nat) : Int) = 3
  have a6 : isKey rowsN [110, 111, 116, 105, 116, 59] 6 = false := not_name (k := [110, 111, 116, 105, 116, 59]) (by decide +kernel)
  have a5 : isKey rowsN [110, 111, 116, 105, 116, 59] 5 = false := not_name (k := [110, 111, 116, 105, 116]) (by decide +kernel)
  have a4 : isKey rowsN [110, 111, 116, 105, 116, 59] 4 = false := not_name (k := [110, 111, 116, 105]) (by decide +kernel)
  have a3 : isKey rowsN [110, 111, 116, 105, 116, 59] 3 = true := (name_is (k := [110, 111, 116]) (v := [65, 67]) (a := 172) (b := 0) (by decide +kernel) (by decide +kernel) (by decide +kernel)).2
  rw [maxOf, a6, maxOf, a5, maxOf, a4, maxOf, a3]; rfl
theorem longN_stop (k u : List UInt8) (c : UInt8) (h : isName k = true) (hc : wordB c = false) (hc2 : c ≠ 59) : longN (k ++ c :: u) = k.length := by
  have h1 := longN_name k (c :: u) h
  rcases Nat.lt_or_ge k.length (longN (k ++ c :: u)) with x | x
  · exfalso
    have h2 := longN_is (k ++ c :: u) (by omega)
    obtain ⟨m, hm⟩ : ∃ m, longN (k ++ c :: u) = k.length + (m + 1) := ⟨longN (k ++ c :: u) - k.length - 1, by omega⟩
    rw [hm, List.take_length_add_append, List.take_succ_cons] at h2
    rcases List.eq_nil_or_concat (u.take m) with e | ⟨v, d, e⟩
    · rw [e] at h2
      rcases (name_word k c h2).2 with y | y
      · rw [hc] at y; cases y
      · exact hc2 y
    · rw [e, List.concat_eq_append, show k ++ c :: (v ++ [d]) = (k ++ c :: v) ++ [d] by simp] at h2
      have := (name_word _ d h2).1 c (by simp)
      rw [hc] at this; cases this
  · omega
theorem longN_first (c : UInt8) (u : List UInt8) (h : ¬ (65 ≤ c.toNat ∧ c.toNat ≤ 90 ∨ 97 ≤ c.toNat ∧ c.toNat ≤ 122)) : longN (c :: u) = 0 := by
  rcases Nat.eq_zero_or_pos (longN (c :: u)) with x | x
  · exact x
  · exfalso
    have h2 := longN_is (c :: u) x
    obtain ⟨r, hr, e⟩ := (isName_mem _).1 h2
    obtain ⟨d, l, e1, e2⟩ := (rowsN_row r hr).first
    rw [e1] at e
    obtain ⟨m, hm⟩ : ∃ m, longN (c :: u) = m + 1 := ⟨longN (c :: u) - 1, by omega⟩
    rw [hm, List.take_succ_cons] at e
    rw [(List.cons.inj e).1] at e2; exact h e2
theorem longN_nil : longN [] = 0 := rfl
theorem copy_is : nameP [99, 111, 112, 121] = (169, 0) ∧ isName [99, 111, 112, 121] = true := name_is (v := [65, 57]) (by decide +kernel) (by decide +kernel) (by decide +kernel)
theorem not_is : nameP [110, 111, 116] = (172, 0) ∧ isName [110, 111, 116] = true := name_is (v := [65, 67]) (by decide +kernel) (by decide +kernel) (by decide +kernel)
theorem refS_notit : refS [110, 111, 116, 105, 116, 59] false = (⟨#[194, 172]⟩, 4) := by
  have hl : longN [110, 111, 116, 105, 116, 59] = 3 := by
    have := notit_is
    rw [longAt, if_pos (by decide)] at this
    have h2 : longN (List.drop (0 : Int).toNat [110, 111, 116, 105, 116, 59]) = 3 := by omega
    exact h2
  unfold refS
  rw [show numS [110, 111, 116, 105, 116, 59] = none from rfl, hl]
  simp only [List.take, not_is.2, Bool.not_true, Bool.false_and, Bool.or_self, Bool.false_eq_true, if_false, nameT, not_is.1]
  rw [show textV 172 0 = ⟨#[194, 172]⟩ by decide +kernel]
theorem refS_amp (u : List UInt8) (attr : Bool) : refS ([97, 109, 112, 59] ++ u) attr = (⟨#[38]⟩, 5) := by
  have hl := longN_semi [97, 109, 112] u amp_is.2
  have hl2 : longN ([97, 109, 112, 59] ++ u) = 4 := hl
  have hs : isShort [97, 109, 112, 59] = false := by unfold isShort; rw [amp_is.2]; rfl
  unfold refS
  rw [show numS ([97, 109, 112, 59] ++ u) = none from rfl, hl2]
  have e4 : List.take 4 ([97, 109, 112, 59] ++ u) = ([97, 109, 112, 59] : List UInt8) := rfl
  rw [e4]
  simp only [amp_is.2, hs, Bool.not_true, Bool.and_false, Bool.false_and, Bool.or_self, Bool.false_eq_true, if_false, nameT, amp_is.1]
  rw [show textV 38 0 = ⟨#[38]⟩ by decide +kernel]
theorem refS_copy (attr : Bool) : refS [99, 111, 112, 121, 61, 49] attr = (if attr then ⟨#[38, 99, 111, 112, 121]⟩ else ⟨#[194, 169]⟩, 5) := by
  have hl : longN [99, 111, 112, 121, 61, 49] = 4 := longN_stop [99, 111, 112, 121] [49] 61 copy_is.2 (by decide) (by decide)
  have hs : isShort [99, 111, 112, 121] = true := by unfold isShort; rw [copy_is.2]; rfl
  have hk : keptS [61, 49] = true := rfl
  unfold refS
  rw [show numS [99, 111, 112, 121, 61, 49] = none from rfl, hl]
  cases attr
  · simp only [List.take, copy_is.2, Bool.not_true, Bool.false_and, Bool.or_self, Bool.false_eq_true, if_false, nameT, copy_is.1]
    rw [show textV 169 0 = ⟨#[194, 169]⟩ by decide +kernel]
  · simp only [List.take, List.drop, copy_is.2, hs, hk, Bool.not_true, Bool.and_self, Bool.or_true, if_true]
    rfl
end Go.Proofs.YtodommehhcfccaaDoor.G
