/- Proved: what the printed function of the law SearchTells answers is true, for all arguments within the row's own bounds: over numbers and lists alone. No further conditions. -/
import Derived.Test.YtkcojbjnnonopaaPx9
namespace Go.Proofs.Ytkcojbjnnonopaa.Pure
open Go.RowKit Go.Proofs.Ytkcojbjnnonopaa.P Go.Proofs.Ytkcojbjnnonopaa.G Go.Proofs.YtkcojbjnnonopaaW.PrintWords Go.Proofs.YtkcojbjnnonopaaW.PrintLast Go.Proofs.YtkcojbjnnonopaaW.PrintMore
set_option linter.unusedVariables false
set_option linter.unusedSimpArgs false
theorem awake : flaillaw05_awake.f = some true := by decide +kernel
theorem list_is (l : List S31) (h : l.length ≤ 100) : ∃ rows : List Ln, GoodLn rows ∧ rows.length ≤ 100 ∧ (textOf rows).length ≤ 8200 ∧ flailref05_List_o.f l = some (bs (textOf rows)) := by
  have g := keep_good (l.map lnOf)
  have hl : (keepLn (l.map lnOf)).length ≤ 100 := by have := keepGo_length (l.map lnOf) []; rw [List.length_map] at this; exact Nat.le_trans this h
  exact ⟨_, g, hl, by have := length_text _ g.plain; omega, if_pos h⟩
theorem SearchTells (l : List S31) (a1 a2 : ByteArray) (a3 a4 : Int) (w1 : a1.size ≤ 140737488351232) (w2 : a2.size ≤ 140737488351232) (w3 : (Lit.int .i64 a3).wf = true) (w4 : (Lit.int .i64 a4).wf = true) : ∃ k, flaillaw05_SearchTells.f k l a1 a2 a3 a4 = some true := by
  refine ⟨1, ?_⟩
  have b3 := wf_i64 w3
  have b4 := wf_i64 w4
  rw [flaillaw05_SearchTells.f, awake, Option.bind_some]
  by_cases c1 : (l.length : Int) > 100
  · rw [if_pos c1, flaillaw05_SearchTells.j0, if_pos rfl]
  rw [if_neg c1]
  by_cases c2 : (a1.size : Int) > 300
  · rw [if_pos c2, flaillaw05_SearchTells.j0, if_pos rfl]
  rw [if_neg c2]
  by_cases c3 : 300 < (a2.size : Int)
  · rw [decide_eq_true c3, flaillaw05_SearchTells.j0, if_pos rfl]
  rw [decide_eq_false c3, flaillaw05_SearchTells.j0, if_neg (show ¬ (false = true) by simp)]
  obtain ⟨rows, g, hl, ht, hL⟩ := list_is l (by omega)
  have hA := search_Line.text rows g (lb a1) (by omega)
  rw [bs_lb] at hA
  have hB : flailref05_Line_o.f (bs (textOf rows)) a1 = some (answer (lookR rows (lb a1))) := by
    rw [flailref05_Line_o.f, if_pos (by rw [size_bs]; omega), lb_bs, linesOf_text _ g.plain]
    split
    · rename_i e
      rw [e]
      have : lookR rows [] = none := by
        unfold lookR; rw [List.find?_eq_none.mpr (by intro x hx; simpa using (g.plain x hx).some_)]; rfl
      rw [this]; rfl
    · rfl
  have hC : ∃ n : Int, search_Longest_o.f (bs (textOf rows)) a2 a3 a4 = some n ∧ flailref05_Longest_o.f (bs (textOf rows)) a2 a3 a4 = some n := by
    have e2 : flailref05_Longest_o.f (bs (textOf rows)) a2 a3 a4 = some (if a3 < 0 ∨ (a2.size : Int) < a3 then 0 else ((longest rows ((lb a2).drop a3.toNat) a4 : Nat) : Int)) := by
      rw [flailref05_Longest_o.f, if_pos ⟨by rw [size_bs]; omega, by omega⟩, lb_bs, linesOf_text _ g.plain, longR_longest]
    rw [e2]
    refine ⟨_, ?_, rfl⟩
    by_cases c : a3 < 0 ∨ (a2.size : Int) < a3
    · rw [if_pos c, search_Longest_o.f, if_pos ⟨by omega, b4.1, b4.2⟩, if_pos c]
    · obtain ⟨p, rfl⟩ := Int.eq_ofNat_of_zero_le (show 0 ≤ a3 by omega)
      have := search_Longest_o.is rows g (by omega) (lb a2) p a4 (by rw [length_lb]; omega) (by rw [length_lb]; omega) b4.1 b4.2
      rw [bs_lb] at this
      rw [if_neg c, this]; rfl
  obtain ⟨n, h1, h2⟩ := hC
  rw [hL, Option.bind_some, hA, Option.bind_some, hB, Option.bind_some, if_pos rfl, if_pos rfl, if_pos (by simp), h1, Option.bind_some, h2, Option.bind_some]
  simp
end Go.Proofs.Ytkcojbjnnonopaa.Pure
