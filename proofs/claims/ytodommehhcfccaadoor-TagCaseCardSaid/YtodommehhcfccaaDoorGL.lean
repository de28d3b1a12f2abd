/- Proved: small laws of the words of chapters 2 and 12 (the sign 0; where a text ends that ends with its own tag), over lists of bytes. No conditions. -/
import Derived.Test.YtodommehhcfccaaDoorGU
import Derived.Lib.ReplaceLaws
namespace Go.Proofs.YtodommehhcfccaaDoor.G
open Go.RowKit Go.Proofs.YtodommehhcfccaaDoorW.PrintWords
set_option linter.unusedVariables false
set_option linter.unusedSimpArgs false
/-- A text with api.Bad in the place of the sign 0. -/
def cleanL : List UInt8 → List UInt8
  | [] => []
  | c :: u => (if c = 0 then [239, 191, 189] else [c]) ++ cleanL u
theorem cleanL_append (a b : List UInt8) : cleanL (a ++ b) = cleanL a ++ cleanL b := by
  induction a with
  | nil => rfl
  | cons c a ih => rw [List.cons_append, cleanL, cleanL, ih, List.append_assoc]
theorem cleanL_plain (a : List UInt8) (h : (0 : UInt8) ∉ a) : cleanL a = a := by
  induction a with
  | nil => rfl
  | cons c a ih => rw [cleanL, if_neg (fun e => h (by rw [e]; exact List.mem_cons_self ..)), ih (fun e => h (List.mem_cons_of_mem _ e))]; rfl
theorem cleanL_len (a : List UInt8) : (cleanL a).length ≤ 3 * a.length := by
  induction a with
  | nil => simp [cleanL]
  | cons c a ih =>
    rw [cleanL, List.length_append, List.length_cons]
    have : (if c = 0 then [239, 191, 189] else [c] : List UInt8).length ≤ 3 := by split <;> simp
    omega
theorem cleanL_zero (a : List UInt8) : (0 : UInt8) ∉ cleanL a := by
  induction a with
  | nil => simp [cleanL]
  | cons c a ih =>
    rw [cleanL, List.mem_append]
    rintro (h | h)
    · split at h
      · simp at h
      · rename_i hc; rw [List.mem_singleton] at h; exact hc h.symm
    · exact ih h
theorem occ_one (l : List UInt8) (c : UInt8) (i : Nat) : Lib.occAt l [c] i = (l[i]? == some c) := by
  unfold Lib.occAt
  by_cases h : i < l.length
  · rw [List.drop_eq_getElem_cons h, List.getElem?_eq_getElem h]
    simp only [List.isPrefixOf, Bool.and_true, Option.some_beq_some]
    rw [Bool.eq_iff_iff, beq_iff_eq, beq_iff_eq]; exact eq_comm
  · rw [List.drop_of_length_le (by omega), List.getElem?_eq_none (by omega)]; rfl
theorem index_zero (a u : List UInt8) (c : UInt8) (h : c ∉ a) : Lib.index (a ++ c :: u) [c] = a.length := by
  refine Lib.index_first (by simp) ?_ ?_
  · rw [occ_one, List.getElem?_append_right (Nat.le_refl _), Nat.sub_self]; simp
  · intro j hj
    rw [occ_one, List.getElem?_append_left hj, List.getElem?_eq_getElem hj, beq_eq_false_iff_ne]
    intro e
    exact h (by rw [← Option.some.inj e]; exact List.getElem_mem _)
theorem index_zero_none (a : List UInt8) (c : UInt8) (h : c ∉ a) : Lib.index a [c] = -1 := by
  refine Lib.index_none fun j hj => ?_
  rw [occ_one]
  by_cases hl : j < a.length
  · rw [List.getElem?_eq_getElem hl, beq_eq_false_iff_ne]
    intro e
    exact h (by rw [← Option.some.inj e]; exact List.getElem_mem _)
  · rw [List.getElem?_eq_none (by omega)]; rfl
theorem replace_clean : ∀ (n : Nat) (l : List UInt8), l.length ≤ n → Lib.replaceK [0] [239, 191, 189] (Lib.count l [0]) l = cleanL l
  | n, l, hn => by
    by_cases h : (0 : UInt8) ∈ l
    · obtain ⟨a, u, e, ha⟩ := List.eq_append_cons_of_mem h
      have hi := index_zero a u 0 ha
      have hl : u.length < l.length := by rw [e]; simp; omega
      have hd : (a ++ 0 :: u).drop (a.length + 1) = u := by rw [show a ++ 0 :: u = (a ++ [0]) ++ u by simp, show a.length + 1 = (a ++ [(0 : UInt8)]).length by simp, List.drop_left]
      have hc := Lib.count_hit (s := a ++ 0 :: u) (sub := [0]) (i := a.length) (by simp) hi
      rw [List.length_singleton, hd] at hc
      cases n with
      | zero => omega
      | succ n =>
        rw [e, hc, Nat.add_comm 1, Lib.replaceK_hit _ _ _ _ _ hi, List.length_singleton, hd, replace_clean n u (by omega), List.take_left, cleanL_append, cleanL_plain a ha, cleanL, if_pos rfl, List.append_assoc]
    · rw [Lib.count_miss (index_zero_none l 0 h), Lib.replaceK, cleanL_plain l h]
theorem replace_all (l : List UInt8) : Lib.replaceAll l [0] [239, 191, 189] = cleanL l := by
  unfold Lib.replaceAll Lib.replace Lib.replaceNum
  rw [if_neg (by decide), if_pos (.inl (by omega))]
  exact replace_clean _ l (Nat.le_refl _)
/-- The places at which an opening of an end stands, from one on. -/
def hits : Nat → List UInt8 → List Nat
  | _, [] => []
  | p, c :: v => if List.isPrefixOf [60, 47] (c :: v) then p :: hits (p + 1) v else hits (p + 1) v
theorem hits_none : ∀ (l : List UInt8) (p : Nat), Lib.index l [60, 47] = -1 → hits p l = []
  | [], _, _ => rfl
  | c :: v, p, h => by
    unfold Lib.index at h
    split at h
    · cases h
    · rename_i hp
      rw [hits, if_neg hp]
      split at h
      · rename_i h1; exact hits_none v _ (beq_iff_eq.1 h1)
      · rename_i h1
        have := Lib.index_ge v [60, 47]
        omega
theorem hits_some : ∀ (l : List UInt8) (p j : Nat), Lib.index l [60, 47] = j → hits p l = (p + j) :: hits (p + j + 1) (l.drop (j + 1))
  | [], p, j, h => by
    have : Lib.index [] [60, 47] = -1 := rfl
    omega
  | c :: v, p, j, h => by
    unfold Lib.index at h
    split at h
    · rename_i hp
      obtain rfl : j = 0 := by omega
      rw [hits, if_pos hp]; rfl
    · rename_i hp
      rw [hits, if_neg hp]
      split at h
      · omega
      · obtain ⟨k, rfl⟩ : ∃ k, j = k + 1 := ⟨j - 1, by have := Lib.index_ge v [60, 47]; rename_i h1; rw [beq_iff_eq] at h1; omega⟩
        rw [hits_some v (p + 1) k (by omega), List.drop_succ_cons, show p + 1 + k = p + (k + 1) by omega]
/-- Does a name's end stand there? -/
def spaceB (c : UInt8) : Bool := spaceI c.toNat
def rawE (name u : List UInt8) : Bool :=
  !name.isEmpty && (pf [60, 47] u && (pf name (u.drop 2) && (match u.drop (2 + name.length) with | [] => false | c :: _ => spaceB c || c == 47 || c == 62)))
/-- How many bytes are ahead of the first end. -/
def rawN (name : List UInt8) : List UInt8 → Nat
  | [] => 0
  | c :: v => if rawE name (c :: v) then 0 else rawN name v + 1
theorem rawN_le (name u : List UInt8) : rawN name u ≤ u.length := by
  induction u with
  | nil => exact Nat.le_refl _
  | cons c v ih => rw [rawN]; split <;> simp <;> omega
theorem rawE_nil (name : List UInt8) : rawE name [] = false := by unfold rawE; rw [pf_none]; simp
theorem rawE_open {name u : List UInt8} (h : rawE name u = true) : List.isPrefixOf [60, 47] u = true := by
  unfold rawE at h
  rw [Bool.and_eq_true, Bool.and_eq_true] at h
  have h2 := h.2.1
  cases u with
  | nil => cases h2
  | cons a v =>
    cases v with
    | nil => rw [pf_cons, pf_none, Bool.and_false] at h2; cases h2
    | cons b v =>
      rw [pf_cons, pf_cons, low_eq (by decide), low_eq (by decide), pf_nil, Bool.and_true, Bool.and_eq_true, beq_iff_eq, beq_iff_eq] at h2
      rw [h2.1, h2.2]; rfl
/-- The first of the places at which an end stands. -/
theorem rawN_hits (name : List UInt8) : ∀ (u : List UInt8) (p : Nat), (∀ pre x post, hits p u = pre ++ x :: post → (∀ y ∈ pre, rawE name (u.drop (y - p)) = false) → rawE name (u.drop (x - p)) = true → x = p + rawN name u) ∧ ((∀ y ∈ hits p u, rawE name (u.drop (y - p)) = false) → rawN name u = u.length) ∧ (∀ y ∈ hits p u, p ≤ y)
  | [], p => ⟨fun pre x post h => by simp [hits] at h, fun _ => rfl, fun y h => by simp [hits] at h⟩
  | c :: v, p => by
    obtain ⟨i1, i2, i3⟩ := rawN_hits name v (p + 1)
    have hsh : ∀ y, p + 1 ≤ y → (c :: v).drop (y - p) = v.drop (y - (p + 1)) := by
      intro y hy
      rw [show y - p = (y - (p + 1)) + 1 by omega, List.drop_succ_cons]
    have hge : ∀ y ∈ hits p (c :: v), p ≤ y := by
      intro y hy
      rw [hits] at hy
      split at hy
      · rcases List.mem_cons.1 hy with e | h
        · omega
        · have := i3 y h; omega
      · have := i3 y hy; omega
    refine ⟨?_, ?_, hge⟩
    · intro pre x post h hpre hx
      rw [rawN]
      rw [hits] at h
      split at h
      · rename_i ho
        cases pre with
        | nil =>
          obtain ⟨rfl, _⟩ := List.cons.inj h
          rw [Nat.sub_self, List.drop_zero] at hx
          rw [if_pos hx]; omega
        | cons q pre =>
          obtain ⟨rfl, h2⟩ := List.cons.inj h
          have h0 := hpre p (List.mem_cons_self ..)
          rw [Nat.sub_self, List.drop_zero] at h0
          rw [if_neg (by rw [h0]; decide)]
          have hx1 : p + 1 ≤ x := i3 x (by rw [h2]; simp)
          have := i1 pre x post h2 (fun y hy => by
            have hy1 : p + 1 ≤ y := i3 y (by rw [h2]; simp [hy])
            rw [← hsh y hy1]; exact hpre y (List.mem_cons_of_mem _ hy)) (by rw [← hsh x hx1]; exact hx)
          omega
      · rename_i ho
        have h0 : rawE name (c :: v) = false := by
          cases e : rawE name (c :: v) with
          | false => rfl
          | true => exact absurd (rawE_open e) ho
        rw [if_neg (by rw [h0]; decide)]
        have hx1 : p + 1 ≤ x := i3 x (by rw [h]; simp)
        have := i1 pre x post h (fun y hy => by
          have hy1 : p + 1 ≤ y := i3 y (by rw [h]; simp [hy])
          rw [← hsh y hy1]; exact hpre y hy) (by rw [← hsh x hx1]; exact hx)
        omega
    · intro h
      have h0 : rawE name (c :: v) = false := by
        cases e : rawE name (c :: v) with
        | false => rfl
        | true =>
          have := h p (by rw [hits, if_pos (rawE_open e)]; exact List.mem_cons_self ..)
          rw [Nat.sub_self, List.drop_zero, e] at this; cases this
      rw [rawN, if_neg (by rw [h0]; decide), i2 (fun y hy => by
        have hy1 := i3 y hy
        rw [← hsh y hy1]
        refine h y ?_
        rw [hits]; split
        · exact List.mem_cons_of_mem _ hy
        · exact hy)]
      rfl
end Go.Proofs.YtodommehhcfccaaDoor.G
