/- Proved: what the printed function of the law SearchEach answers is true, for all arguments within the row's own bounds: over numbers and lists alone. No further conditions. -/
import Derived.Test.YtkcojbjnnonopaaPx10
namespace Go.Proofs.Ytkcojbjnnonopaa.Pure
open Go.RowKit Go.Proofs.Ytkcojbjnnonopaa.P Go.Proofs.Ytkcojbjnnonopaa.G Go.Proofs.YtkcojbjnnonopaaW.PrintWords Go.Proofs.YtkcojbjnnonopaaW.PrintLast Go.Proofs.YtkcojbjnnonopaaW.PrintMore
set_option linter.unusedVariables false
set_option linter.unusedSimpArgs false
theorem awake : flaillaw05_awake.f = some true := by decide +kernel
theorem list_is (l : List S31) (h : l.length ≤ 100) : ∃ rows : List Ln, GoodLn rows ∧ rows.length ≤ 100 ∧ (textOf rows).length ≤ 8200 ∧ flailref05_List_o.f l = some (bs (textOf rows)) := by
  have g := keep_good (l.map lnOf)
  have hl : (keepLn (l.map lnOf)).length ≤ 100 := by have := keepGo_length (l.map lnOf) []; rw [List.length_map] at this; exact Nat.le_trans this h
  exact ⟨_, g, hl, by have := length_text _ g.plain; omega, if_pos h⟩
theorem each (rows : List Ln) (g : GoodLn rows) (hl : rows.length ≤ 100) (ht : (textOf rows).length ≤ 8200) (more : ByteArray) (hm : more.size ≤ 40) (d : Nat) : ∀ (k i : Nat), i + d = rows.length → 2 * d < k →
    flaillaw05_SearchEach.l0 k more true (bs (textOf rows)) (rows.map rowOf') (i : Int) = some true := by
  have none_ : ∀ key : List UInt8, (∀ r ∈ rows, r.1 ≠ key) → (answer (lookR rows key)) = (⟨#[]⟩, false) := fun key h => by
    have : lookR rows key = none := by unfold lookR; rw [List.find?_eq_none.mpr (by intro x hx; simpa using h x hx)]; rfl
    rw [this]; rfl
  induction d with
  | zero =>
    intro k i hi hk
    obtain ⟨K, rfl⟩ : ∃ m, k = m + 1 := ⟨k - 1, by omega⟩
    have := search_Line.text rows g [] (by omega)
    rw [none_ [] (fun r hr => (g.plain r hr).some_)] at this
    rw [flaillaw05_SearchEach.l0, if_neg (by simp; omega), nil_bs, this]
    rfl
  | succ d ih =>
    intro k i hi hk
    obtain ⟨K, rfl⟩ : ∃ m, k = m + 1 + 1 := ⟨k - 2, by omega⟩
    have hil : i < rows.length := by omega
    have hrd : rd_T31 (rows.map rowOf') (i : Int) = rowOf' rows[i] := by simp [rd_T31, List.getD, hil]
    obtain ⟨r, hr⟩ : ∃ r, rows[i] = r := ⟨_, rfl⟩
    have hmem : r ∈ rows := by rw [← hr]; exact List.getElem_mem hil
    have hp := g.plain r hmem
    have hk1 := hp.k40
    have hk2 := hp.r40
    have look : lookR rows r.1 = some r.2 := by
      obtain ⟨a, b, e⟩ := List.append_of_mem hmem
      have hr2 := g.rise
      rw [e, List.pairwise_append] at hr2
      have : ∀ x ∈ a, x.1 ≠ r.1 := fun x hx h => by
        have := hr2.2.2 x hx r (List.mem_cons_self ..)
        unfold LtLn at this; rw [h, less_irrefl] at this; cases this
      rw [e, lookR_skip _ _ _ this, lookR_here]
    have s1 := search_Line.text rows g r.1 (by omega)
    rw [look] at s1
    have s2 := search_Line.text rows g (r.1 ++ 10 :: lb more) (by omega)
    rw [none_ _ (fun x hx h => (g.plain x hx).k10 (by rw [h]; simp))] at s2
    have s3 := search_Line.text rows g (r.1 ++ 32 :: r.2) (by omega)
    rw [none_ _ (fun x hx h => (g.plain x hx).k32 (by rw [h]; simp))] at s3
    have e1 : bs r.1 ++ (⟨#[10]⟩ : ByteArray) ++ more = bs (r.1 ++ 10 :: lb more) := lb_inj (by simp [lb_bs, bs_lb, toList_lb, lb_append, length_lb, size_bs, lb_mk, low_length, low_append, low_low, size_lowS, lb_lowS])
    have e2 : bs r.1 ++ (⟨#[32]⟩ : ByteArray) ++ bs r.2 = bs (r.1 ++ 32 :: r.2) := lb_inj (by simp [lb_bs, bs_lb, toList_lb, lb_append, length_lb, size_bs, lb_mk, low_length, low_append, low_low, size_lowS, lb_lowS])
    have next := ih K (i + 1) (by omega) (by omega)
    rw [show ((i + 1 : Nat) : Int) = (i : Int) + 1 by omega] at next
    rw [flaillaw05_SearchEach.l0, if_pos (by simp; omega), if_pos (by omega), hrd, hr]
    show ((search_Line.f (bs (textOf rows)) (bs r.1)).bind _) = _
    rw [s1, Option.bind_some]
    show flaillaw05_SearchEach.j2 (K + 1) more true (bs (textOf rows)) (rows.map rowOf') (i : Int) ((bs r.2).toList != (bs r.2).toList) = _
    rw [bne_self_eq_false, flaillaw05_SearchEach.j2, if_neg (by simp), if_pos (by omega), if_pos (by simp; omega), hrd, hr]
    show (if (bs r.1).size + 1 ≤ 9223372036854775807 then if (bs r.1 ++ (⟨#[10]⟩ : ByteArray)).size + more.size ≤ 9223372036854775807 then (search_Line.f (bs (textOf rows)) (bs r.1 ++ (⟨#[10]⟩ : ByteArray) ++ more)).bind fun bt155 => if (bs r.1 ++ (⟨#[32]⟩ : ByteArray)).size + (bs r.2).size ≤ 9223372036854775807 then (search_Line.f (bs (textOf rows)) (bs r.1 ++ (⟨#[32]⟩ : ByteArray) ++ bs r.2)).bind fun bt159 => if bt155.2 = true then some false else if bt159.2 = true then some false else flaillaw05_SearchEach.l0 K more true (bs (textOf rows)) (rows.map rowOf') (wrap64 ((i : Int) + 1)) else none else none else none) = some true
    rw [if_pos (by rw [size_bs]; omega), if_pos (by simp [lb_bs, bs_lb, toList_lb, lb_append, length_lb, size_bs, lb_mk, low_length, low_append, low_low, size_lowS, lb_lowS, size_lit]; omega), e1, s2, Option.bind_some, if_pos (by simp [lb_bs, bs_lb, toList_lb, lb_append, length_lb, size_bs, lb_mk, low_length, low_append, low_low, size_lowS, lb_lowS, size_lit]; omega), e2, s3, Option.bind_some, if_neg (by simp), if_neg (by simp), w64 (by omega) (by omega)]
    exact next
theorem SearchEach (l : List S31) (a1 : ByteArray) (w1 : a1.size ≤ 140737488351232) : ∃ k, flaillaw05_SearchEach.f k l a1 = some true := by
  refine ⟨202, ?_⟩
  rw [flaillaw05_SearchEach.f, awake, Option.bind_some]
  by_cases c1 : (l.length : Int) > 100
  · rw [if_pos c1, flaillaw05_SearchEach.j0, if_pos rfl]
  rw [if_neg c1]
  by_cases c3 : 40 < (a1.size : Int)
  · rw [decide_eq_true c3, flaillaw05_SearchEach.j0, if_pos rfl]
  rw [decide_eq_false c3, flaillaw05_SearchEach.j0, if_neg (show ¬ (false = true) by simp)]
  obtain ⟨rows, g, hl, ht, hL⟩ := list_is l (by omega)
  rw [hL, Option.bind_some, flailref05_Rows_o.f, if_pos (by rw [size_bs]; omega), Option.bind_some, lb_bs, linesOf_text _ g.plain]
  exact each rows g hl ht a1 (by omega) rows.length _ 0 (by omega) (by omega)
end Go.Proofs.Ytkcojbjnnonopaa.Pure
