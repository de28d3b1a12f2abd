-- pruned2
/- Proved: small laws of the words of chapters 2 and 12 (the sign 0; where a text ends that ends with its own tag), over lists of bytes. No conditions. -/
import Derived.Test.YtmokjaddbmcopaaDoorGU
import Derived.Lib.ReplaceLaws
namespace Go.Proofs.YtmokjaddbmcopaaDoor.G
open Go.RowKit Go.Proofs.YtmokjaddbmcopaaDoorW.PrintWords
set_option linter.unusedVariables false
set_option linter.unusedSimpArgs false
def cleanL : List UInt8 → List UInt8
  | [] => []
  | c :: u => (if c = 0 then [239, 191, 189] else [c]) ++ cleanL u
theorem cleanL_append (a b : List UInt8) : cleanL (a ++ b) = cleanL a ++ cleanL b := by
  induction a with
  | nil => rfl
  | cons c a ih => rw [List.cons_append, cleanL, cleanL, ih, List.append_assoc]
theorem cleanL_plain (a : List UInt8) (h : (0 : UInt8) ∉ a) : cleanL a = a := by
  induction a with
  | nil => rfl
  | cons c a ih => rw [cleanL, if_neg (fun e => h (by rw [e]; exact List.mem_cons_self ..)), ih (fun e => h (List.mem_cons_of_mem _ e))]; rfl
theorem occ_one (l : List UInt8) (c : UInt8) (i : Nat) : Lib.occAt l [c] i = (l[i]? == some c) := by
  unfold Lib.occAt
  by_cases h : i < l.length
  · rw [List.drop_eq_getElem_cons h, List.getElem?_eq_getElem h]
    simp only [List.isPrefixOf, Bool.and_true, Option.some_beq_some]
    rw [Bool.eq_iff_iff, beq_iff_eq, beq_iff_eq]; exact eq_comm
  · rw [List.drop_of_length_le (by omega), List.getElem?_eq_none (by omega)]; rfl
theorem index_zero (a u : List UInt8) (c : UInt8) (h : c ∉ a) : Lib.index (a ++ c :: u) [c] = a.length := by
  refine Lib.index_first (by simp) ?_ ?_
  · rw [occ_one, List.getElem?_append_right (Nat.le_refl _), Nat.sub_self]; simp
  · intro j hj
    rw [occ_one, List.getElem?_append_left hj, List.getElem?_eq_getElem hj, beq_eq_false_iff_ne]
    intro e
    exact h (by rw [← Option.some.inj e]; exact List.getElem_mem _)
theorem index_zero_none (a : List UInt8) (c : UInt8) (h : c ∉ a) : Lib.index a [c] = -1 := by
  refine Lib.index_none fun j hj => ?_
  rw [occ_one]
  by_cases hl : j < a.length
  · rw [List.getElem?_eq_getElem hl, beq_eq_false_iff_ne]
    intro e
    exact h (by rw [← Option.some.inj e]; exact List.getElem_mem _)
  · rw [List.getElem?_eq_none (by omega)]; rfl
theorem replace_clean : ∀ (n : Nat) (l : List UInt8), l.length ≤ n → Lib.replaceK [0] [239, 191, 189] (Lib.count l [0]) l = cleanL l
  | n, l, hn => by
    by_cases h : (0 : UInt8) ∈ l
    · obtain ⟨a, u, e, ha⟩ := List.eq_append_cons_of_mem h
      have hi := index_zero a u 0 ha
      have hl : u.length < l.length := by rw [e]; simp; omega
      have hd : (a ++ 0 :: u).drop (a.length + 1) = u := by rw [show a ++ 0 :: u = (a ++ [0]) ++ u by simp, show a.length + 1 = (a ++ [(0 : UInt8)]).length by simp, List.drop_left]
      have hc := Lib.count_hit (s := a ++ 0 :: u) (sub := [0]) (i := a.length) (by simp) hi
      rw [List.length_singleton, hd] at hc
      cases n with
      | zero => omega
      | succ n =>
        rw [e, hc, Nat.add_comm 1, Lib.replaceK_hit _ _ _ _ _ hi, List.length_singleton, hd, replace_clean n u (by omega), List.take_left, cleanL_append, cleanL_plain a ha, cleanL, if_pos rfl, List.append_assoc]
    · rw [Lib.count_miss (index_zero_none l 0 h), Lib.replaceK, cleanL_plain l h]
theorem replace_all (l : List UInt8) : Lib.replaceAll l [0] [239, 191, 189] = cleanL l := by
  unfold Lib.replaceAll Lib.replace Lib.replaceNum
  rw [if_neg (by decide), if_pos (.inl (by omega))]
  exact replace_clean _ l (Nat.le_refl _)
def spaceB (c : UInt8) : Bool := spaceI c.toNat
end Go.Proofs.YtmokjaddbmcopaaDoor.G
