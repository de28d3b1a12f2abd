/- Proved: what the printed function of the law SearchNone answers is true, for all arguments within the row's own bounds: over numbers and lists alone. No further conditions. -/
import Derived.Test.YtkcojbjnnonopaaPx6
namespace Go.Proofs.Ytkcojbjnnonopaa.Pure
open Go.RowKit Go.Proofs.Ytkcojbjnnonopaa.P Go.Proofs.Ytkcojbjnnonopaa.G Go.Proofs.YtkcojbjnnonopaaW.PrintWords Go.Proofs.YtkcojbjnnonopaaW.PrintLast Go.Proofs.YtkcojbjnnonopaaW.PrintMore
set_option linter.unusedVariables false
set_option linter.unusedSimpArgs false
theorem awake : flaillaw05_awake.f = some true := by decide +kernel
theorem list_is (l : List S31) (h : l.length ≤ 100) : ∃ rows : List Ln, GoodLn rows ∧ rows.length ≤ 100 ∧ (textOf rows).length ≤ 8200 ∧ flailref05_List_o.f l = some (bs (textOf rows)) := by
  have g := keep_good (l.map lnOf)
  have hl : (keepLn (l.map lnOf)).length ≤ 100 := by have := keepGo_length (l.map lnOf) []; rw [List.length_map] at this; exact Nat.le_trans this h
  exact ⟨_, g, hl, by have := length_text _ g.plain; omega, if_pos h⟩
theorem SearchNone (u v : ByteArray) (a1 a2 : ByteArray) (a3 a4 : Int) (w1 : a1.size ≤ 140737488351232) (w2 : a2.size ≤ 140737488351232) (w3 : (Lit.int .i64 a3).wf = true) (w4 : (Lit.int .i64 a4).wf = true) : ∃ k, flaillaw05_SearchNone.f k u v a1 a2 a3 a4 = some true := by
  refine ⟨1, ?_⟩
  have b3 := wf_i64 w3
  have b4 := wf_i64 w4
  rw [flaillaw05_SearchNone.f, awake, Option.bind_some]
  by_cases c2 : (a1.size : Int) > 300
  · rw [if_pos c2, flaillaw05_SearchNone.j0, if_pos rfl]
  rw [if_neg c2]
  by_cases c3 : 300 < (a2.size : Int)
  · rw [decide_eq_true c3, flaillaw05_SearchNone.j0, if_pos rfl]
  rw [decide_eq_false c3, flaillaw05_SearchNone.j0, if_neg (show ¬ (false = true) by simp)]
  have g0 : GoodLn [] := ⟨fun _ h => absurd h (by simp), List.Pairwise.nil⟩
  have z1 : search_Line.f (⟨#[]⟩ : ByteArray) a1 = some (⟨#[]⟩, false) := by
    have := search_Line.text [] g0 (lb a1) (by simp [textOf])
    rw [bs_lb] at this; exact this
  have z2 : search_Longest_o.f (⟨#[]⟩ : ByteArray) a2 a3 a4 = some 0 := by
    by_cases c : a3 < 0 ∨ (a2.size : Int) < a3
    · rw [search_Longest_o.f, if_pos ⟨by omega, b4.1, b4.2⟩, if_pos c]
    · obtain ⟨p, rfl⟩ := Int.eq_ofNat_of_zero_le (show 0 ≤ a3 by omega)
      have := search_Longest_o.is [] g0 (by simp [textOf]) (lb a2) p a4 (by rw [length_lb]; omega) (by rw [length_lb]; omega) b4.1 b4.2
      rw [bs_lb] at this
      refine this.trans ?_
      have h0 : longest [] ((lb a2).drop p) a4 = 0 := by
        rcases Nat.eq_zero_or_pos (longest [] ((lb a2).drop p) a4) with h | h
        · exact h
        · have := maxOf_is _ _ h
          rw [isKey_iff] at this; obtain ⟨r, hr, _⟩ := this; exact absurd hr (by simp)
      rw [h0]; rfl
  have hL : flailref05_List_o.f [(⟨u, v⟩ : S31)] = some (bs (textOf (keepGo [lnOf ⟨u, v⟩] []))) := if_pos (by simp)
  have hg := keepGo_good [lnOf (⟨u, v⟩ : S31)] []
  rw [z1, Option.bind_some, z2, Option.bind_some, hL, Option.bind_some, toList_lb, lb_bs]
  rw [keepGo] at hg ⊢
  split
  · rename_i hc
    rw [if_pos hc] at hg
    have hk : keepGo ([] : List Ln) (lnOf (⟨u, v⟩ : S31)).1 = [] := rfl
    rw [hk] at hg ⊢
    obtain ⟨⟨g1, g2⟩, _⟩ := hg
    have hp := g1 _ (List.mem_singleton.2 rfl)
    have gd : GoodLn [lnOf (⟨u, v⟩ : S31)] := ⟨g1, g2⟩
    have hlen := length_text _ g1
    have k40 : u.size ≤ 40 := by rw [← length_lb]; exact hp.k40
    have hne : ¬ textOf [lnOf (⟨u, v⟩ : S31)] = [] := by
      intro e; have h1 := congrArg List.length e; rw [textOf, List.length_nil] at h1; have := lineOf_pos (lnOf (⟨u, v⟩ : S31)); omega
    have s1 := search_Line.text [lnOf ⟨u, v⟩] gd (lb a1) (by simp at hlen ⊢; omega)
    rw [bs_lb] at s1
    have s2 : search_Longest_o.f (bs (textOf [lnOf (⟨u, v⟩ : S31)])) (u ++ a2) 0 (u.size : Int) = some ((u.size : Nat) : Int) := by
      have e : u ++ a2 = bs (lb u ++ lb a2) := lb_inj (by simp [lb_bs, bs_lb, toList_lb, lb_append, length_lb, size_bs, lb_mk, low_length, low_append, low_low, size_lowS, lb_lowS])
      have := search_Longest_o.is [lnOf ⟨u, v⟩] gd (by simp at hlen ⊢; omega) (lb u ++ lb a2) 0 (u.size : Int) (Nat.zero_le _) (by rw [List.length_append, length_lb, length_lb]; omega) (by omega) (by omega)
      rw [← e, List.drop_zero] at this
      refine this.trans ?_
      congr 2
      have hk : isKey [lnOf (⟨u, v⟩ : S31)] (lb u ++ lb a2) u.size = true := by
        rw [isKey_iff]; refine ⟨_, List.mem_singleton.2 rfl, ?_⟩
        rw [← length_lb, List.take_left]; rfl
      have h1 := maxOf_ge _ (min (u.size : Int) ((lb u ++ lb a2).length : Int)).toNat _ hk (by rw [List.length_append, length_lb]; omega)
      have h2 := maxOf_le (isKey [lnOf (⟨u, v⟩ : S31)] (lb u ++ lb a2)) (min (u.size : Int) ((lb u ++ lb a2).length : Int)).toNat
      unfold longest; omega
    rw [if_neg hne, s1, Option.bind_some, if_pos rfl, if_neg (by simp), if_pos rfl, s2, Option.bind_some, beq_self_eq_true]
    by_cases ck : lb a1 = lb u
    · have hlook : lookR [lnOf (⟨u, v⟩ : S31)] (lb a1) = some (lb v) := by rw [ck]; exact lookR_here (lnOf ⟨u, v⟩) []
      rw [hlook]
      simp only [answer, toList_lb, lb_bs, ck, beq_self_eq_true, if_true]
      rw [if_pos (by omega)]
    · have hlook : lookR [lnOf (⟨u, v⟩ : S31)] (lb a1) = none := by
        unfold lookR; rw [List.find?_eq_none.mpr (by intro x hx; rw [List.mem_singleton.1 hx]; simpa [lnOf] using fun e => ck e.symm)]; rfl
      have hb : (a1.toList == u.toList) = false := by rw [toList_lb, toList_lb]; exact beq_eq_false_iff_ne.mpr ck
      rw [hlook, hb]
      have hsz : u.size + a2.size ≤ 9223372036854775807 := by omega
      simp [answer, hsz]
  · rename_i hc
    rw [if_pos (by rfl), if_pos rfl, if_neg (by simp)]; rfl
end Go.Proofs.Ytkcojbjnnonopaa.Pure
