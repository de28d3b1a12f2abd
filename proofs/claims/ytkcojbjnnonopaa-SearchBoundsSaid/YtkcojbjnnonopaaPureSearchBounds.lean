/- Proved: what the printed function of the law SearchBounds answers is true, for all arguments within the row's own bounds: over numbers and lists alone. No further conditions. -/
import Derived.Test.YtkcojbjnnonopaaPx12
namespace Go.Proofs.Ytkcojbjnnonopaa.Pure
open Go.RowKit Go.Proofs.Ytkcojbjnnonopaa.P Go.Proofs.Ytkcojbjnnonopaa.G Go.Proofs.YtkcojbjnnonopaaW.PrintWords Go.Proofs.YtkcojbjnnonopaaW.PrintLast Go.Proofs.YtkcojbjnnonopaaW.PrintMore
set_option linter.unusedVariables false
set_option linter.unusedSimpArgs false
theorem awake : flaillaw05_awake.f = some true := by decide +kernel
theorem list_is (l : List S31) (h : l.length ≤ 100) : ∃ rows : List Ln, GoodLn rows ∧ rows.length ≤ 100 ∧ (textOf rows).length ≤ 8200 ∧ flailref05_List_o.f l = some (bs (textOf rows)) := by
  have g := keep_good (l.map lnOf)
  have hl : (keepLn (l.map lnOf)).length ≤ 100 := by have := keepGo_length (l.map lnOf) []; rw [List.length_map] at this; exact Nat.le_trans this h
  exact ⟨_, g, hl, by have := length_text _ g.plain; omega, if_pos h⟩
theorem SearchBounds (l : List S31) (a1 : ByteArray) (a2 a3 : Int) (w1 : a1.size ≤ 140737488351232) (w2 : (Lit.int .u8 a2).wf = true) (w3 : (Lit.int .u8 a3).wf = true) : ∃ k, flaillaw05_SearchBounds.f k l a1 a2 a3 = some true := by
  refine ⟨1, ?_⟩
  have b2 := wf_u8 w2
  have b3 := wf_u8 w3
  rw [flaillaw05_SearchBounds.f, awake, Option.bind_some]
  by_cases c1 : (l.length : Int) > 100
  · rw [if_pos c1, flaillaw05_SearchBounds.j0, if_pos rfl]
  rw [if_neg c1]
  by_cases c3 : 300 < (a1.size : Int)
  · rw [decide_eq_true c3, flaillaw05_SearchBounds.j0, if_pos rfl]
  rw [decide_eq_false c3, flaillaw05_SearchBounds.j0, if_neg (show ¬ (false = true) by simp)]
  obtain ⟨rows, g, hl, ht, hL⟩ := list_is l (by omega)
  have hz : ∀ m : Int, -9223372036854775808 ≤ m → m ≤ 9223372036854775807 → search_Longest_o.f (bs (textOf rows)) a1 0 m = some ((longest rows (lb a1) m : Nat) : Int) := fun m h1 h2 => by
    have := search_Longest_o.is rows g (by omega) (lb a1) 0 m (Nat.zero_le _) (by rw [length_lb]; omega) h1 h2
    rw [bs_lb, List.drop_zero] at this
    exact this
  have hx : search_Longest_o.f (bs (textOf rows)) ((⟨#[120]⟩ : ByteArray) ++ a1) 1 300 = some ((longest rows (lb a1) 300 : Nat) : Int) := by
    have e : (⟨#[120]⟩ : ByteArray) ++ a1 = bs (120 :: lb a1) := lb_inj (by simp [lb_bs, bs_lb, toList_lb, lb_append, length_lb, size_bs, lb_mk, low_length, low_append, low_low, size_lowS, lb_lowS])
    have := search_Longest_o.is rows g (by omega) (120 :: lb a1) 1 300 (by simp) (by rw [List.length_cons, length_lb]; omega) (by omega) (by omega)
    rw [e]; exact this
  have mono : ∀ m m' : Int, m ≤ m' → longest rows (lb a1) m ≤ longest rows (lb a1) m' := fun m m' h => maxOf_mono _ (by omega)
  have top : ∀ m : Int, 300 ≤ m → longest rows (lb a1) m = longest rows (lb a1) 300 := fun m h => by
    unfold longest; rw [show (min m ((lb a1).length : Int)).toNat = (min 300 ((lb a1).length : Int)).toNat by rw [length_lb]; omega]
  obtain ⟨all, hall⟩ : ∃ all, longest rows (lb a1) 300 = all := ⟨_, rfl⟩
  have all_le : all ≤ a1.size := by rw [← hall]; have := maxOf_le (isKey rows (lb a1)) (min 300 ((lb a1).length : Int)).toNat; unfold longest; rw [length_lb] at this ⊢; omega
  have self : longest rows (lb a1) (all : Int) = all := by
    have h1 := mono all 300 (by omega)
    rw [hall] at h1
    rcases Nat.eq_zero_or_pos all with h0 | h0
    · omega
    · have h2 : isKey rows (lb a1) all = true := by rw [← hall]; exact maxOf_is _ _ (by rw [← hall] at h0; exact h0)
      have := maxOf_ge (isKey rows (lb a1)) (min (all : Int) ((lb a1).length : Int)).toNat all h2 (by rw [length_lb]; omega)
      unfold longest at h1 ⊢; omega
  have m1 := mono a2 (a2 + a3) (by omega)
  have m2 : longest rows (lb a1) (a2 + a3) ≤ all := by
    by_cases h : a2 + a3 ≤ 300
    · have := mono _ _ h; omega
    · rw [top _ (by omega)]; omega
  rw [hL, Option.bind_some, w64 (x := a2) (by omega) (by omega), w64 (x := a3) (by omega) (by omega), w64 (x := a2 + a3) (by omega) (by omega), hz _ (by omega) (by omega), Option.bind_some, hz _ (by omega) (by omega), Option.bind_some, hz _ (by omega) (by omega), Option.bind_some, hall, if_pos rfl, if_pos (by omega), if_pos (by omega), if_pos (by omega), hx, Option.bind_some, hall, if_pos rfl, hz _ (by omega) (by omega), Option.bind_some, self, if_pos rfl, w64 (by omega) (by omega), hz _ (by omega) (by omega), Option.bind_some]
  have big : longest rows (lb a1) ((all : Int) + 1000) = all := by rw [top _ (by omega), hall]
  rw [big]; simp
end Go.Proofs.Ytkcojbjnnonopaa.Pure
