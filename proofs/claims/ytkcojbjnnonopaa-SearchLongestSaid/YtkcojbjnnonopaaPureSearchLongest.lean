/- Proved: what the printed function of the law SearchLongest answers is true, for all arguments within the row's own bounds: over numbers and lists alone. No further conditions. -/
import Derived.Test.YtkcojbjnnonopaaPx11
namespace Go.Proofs.Ytkcojbjnnonopaa.Pure
open Go.RowKit Go.Proofs.Ytkcojbjnnonopaa.P Go.Proofs.Ytkcojbjnnonopaa.G Go.Proofs.YtkcojbjnnonopaaW.PrintWords Go.Proofs.YtkcojbjnnonopaaW.PrintLast Go.Proofs.YtkcojbjnnonopaaW.PrintMore
set_option linter.unusedVariables false
set_option linter.unusedSimpArgs false
theorem awake : flaillaw05_awake.f = some true := by decide +kernel
theorem list_is (l : List S31) (h : l.length ≤ 100) : ∃ rows : List Ln, GoodLn rows ∧ rows.length ≤ 100 ∧ (textOf rows).length ≤ 8200 ∧ flailref05_List_o.f l = some (bs (textOf rows)) := by
  have g := keep_good (l.map lnOf)
  have hl : (keepLn (l.map lnOf)).length ≤ 100 := by have := keepGo_length (l.map lnOf) []; rw [List.length_map] at this; exact Nat.le_trans this h
  exact ⟨_, g, hl, by have := length_text _ g.plain; omega, if_pos h⟩
theorem run (rows : List Ln) (g : GoodLn rows) (ht : (textOf rows).length ≤ 8200) (s : ByteArray) (hs : s.size ≤ 300) (p : Nat) (hp : p ≤ s.size) (top : Nat) (htop : top ≤ 255) (n : Nat) (hn : longest rows ((lb s).drop p) (top : Int) = n) (d : Nat) : ∀ (k m : Nat), m + d = 301 → 1 ≤ m → 2 * d + 1 < k →
    flaillaw05_SearchLongest.l0 k s (top : Int) true (bs (textOf rows)) (p : Int) (n : Int) (m : Int) = some true := by
  have hlen : ((lb s).drop p).length = s.size - p := by simp [lb_bs, bs_lb, toList_lb, lb_append, length_lb, size_bs, lb_mk, low_length, low_append, low_low, size_lowS, lb_lowS]
  have hend : ∀ K m : Nat, flaillaw05_SearchLongest.j3 (K + 1) s (top : Int) true (bs (textOf rows)) (p : Int) (n : Int) (m : Int) false = some true := by
    intro K m
    have e : Int.tdiv (top : Int) 2 % 256 = ((top / 2 : Nat) : Int) := by rw [Int.tdiv_eq_ediv_of_nonneg (by omega)]; omega
    have h := search_Longest_o.is rows g (by omega) (lb s) p ((top / 2 : Nat) : Int) (by rw [length_lb]; omega) (by rw [length_lb]; omega) (by omega) (by omega)
    rw [bs_lb] at h
    have hmono : longest rows ((lb s).drop p) ((top / 2 : Nat) : Int) ≤ longest rows ((lb s).drop p) (top : Int) := maxOf_mono _ (by omega)
    rw [flaillaw05_SearchLongest.j3, if_neg (by simp), if_pos rfl, e, h, Option.bind_some, decide_eq_true (by omega)]
  induction d with
  | zero =>
    intro k m hm h1 hk
    obtain ⟨K, rfl⟩ : ∃ j, k = j + 1 + 1 := ⟨k - 2, by omega⟩
    rw [flaillaw05_SearchLongest.l0, w64 (by omega) (by omega), if_neg (by omega)]
    exact hend K m
  | succ d ih =>
    intro k m hm h1 hk
    obtain ⟨K, rfl⟩ : ∃ j, k = j + 1 + 1 := ⟨k - 2, by omega⟩
    rw [flaillaw05_SearchLongest.l0, w64 (by omega) (by omega), w64 (by omega) (by omega)]
    by_cases c1 : (m : Int) ≤ (top : Int)
    · rw [if_pos c1]
      by_cases c2 : (m : Int) ≤ (s.size : Int) - (p : Int)
      · have next := ih K (m + 1) (by omega) (by omega) (by omega)
        rw [show ((m + 1 : Nat) : Int) = (m : Int) + 1 by omega] at next
        have hs1 := search_Line.text rows g (((lb s).drop p).take m) (by omega)
        have ex : s.extract (p : Int).toNat ((p : Int) + (m : Int)).toNat = bs (((lb s).drop p).take m) := lb_inj (by rw [lb_extract, lb_bs, Int.toNat_natCast, show ((p : Int) + (m : Int)).toNat - p = m by omega])
        have h2 : (answer (lookR rows (((lb s).drop p).take m))).2 = isKey rows ((lb s).drop p) m := by
          unfold isKey answer; cases lookR rows (((lb s).drop p).take m) <;> rfl
        rw [decide_eq_true c2, flaillaw05_SearchLongest.j3, if_pos rfl, if_pos (by omega), w64 (by omega) (by omega), if_pos (by omega), if_pos (by omega), ex, hs1, Option.bind_some, h2, w64 (by omega) (by omega), next]
        by_cases c3 : (m : Int) ≥ (n : Int)
        · have hb : isKey rows ((lb s).drop p) m = ((m : Int) == (n : Int)) := by
            by_cases c4 : m = n
            · subst c4
              have : isKey rows ((lb s).drop p) m = true := by
                have h0 : 0 < maxOf (isKey rows ((lb s).drop p)) (min (top : Int) ((lb s).drop p).length).toNat := by unfold longest at hn; omega
                have := maxOf_is _ _ h0
                unfold longest at hn; rw [hn] at this; exact this
              rw [this]; simp
            · have : isKey rows ((lb s).drop p) m = false := maxOf_none _ (min (top : Int) ((lb s).drop p).length).toNat m (by unfold longest at hn; omega) (by rw [hlen]; omega)
              rw [this]
              exact (beq_eq_false_iff_ne.mpr (by omega)).symm
          rw [hb, if_neg (by simp)]
        · rw [if_neg c3]; split <;> rfl
      · rw [decide_eq_false c2]; exact hend K m
    · rw [if_neg c1]; exact hend K m
theorem SearchLongest (l : List S31) (a1 : ByteArray) (a2 a3 : Int) (w1 : a1.size ≤ 140737488351232) (w2 : (Lit.int .u16 a2).wf = true) (w3 : (Lit.int .u8 a3).wf = true) : ∃ k, flaillaw05_SearchLongest.f k l a1 a2 a3 = some true := by
  refine ⟨604 + 1 + 1, ?_⟩
  have b2 := wf_u16 w2
  have b3 := wf_u8 w3
  rw [flaillaw05_SearchLongest.f, awake, Option.bind_some]
  by_cases c1 : (l.length : Int) > 100
  · rw [if_pos c1, flaillaw05_SearchLongest.j0, if_pos rfl]
  rw [if_neg c1]
  by_cases c3 : 300 < (a1.size : Int)
  · rw [decide_eq_true c3, flaillaw05_SearchLongest.j0, if_pos rfl]
  rw [decide_eq_false c3, flaillaw05_SearchLongest.j0, if_neg (show ¬ (false = true) by simp)]
  obtain ⟨rows, g, hl, ht, hL⟩ := list_is l (by omega)
  obtain ⟨p, hp, e⟩ := modk a2 ((a1.size : Int) + 1) b2.1 (by omega) (by omega) (by omega)
  obtain ⟨top, htop⟩ := Int.eq_ofNat_of_zero_le b3.1
  subst htop
  have hz := search_Longest_o.is rows g (by omega) (lb a1) p (top : Int) (by rw [length_lb]; omega) (by rw [length_lb]; omega) (by omega) (by omega)
  rw [bs_lb] at hz
  have hlen : ((lb a1).drop p).length = a1.size - p := by simp [lb_bs, bs_lb, toList_lb, lb_append, length_lb, size_bs, lb_mk, low_length, low_append, low_low, size_lowS, lb_lowS]
  have h1 := maxOf_le (isKey rows ((lb a1).drop p)) (min (top : Int) ((lb a1).drop p).length).toNat
  obtain ⟨n, hn⟩ : ∃ n, longest rows ((lb a1).drop p) (top : Int) = n := ⟨_, rfl⟩
  have hn2 : n ≤ top ∧ n ≤ a1.size - p := by unfold longest at hn; rw [hn] at h1; omega
  rw [hL, Option.bind_some, w64 (x := (a1.size : Int) + 1) (by omega) (by omega), if_neg (by omega), e, w64 (x := (top : Int)) (by omega) (by omega), hz, Option.bind_some, hn, if_neg (by omega), if_neg (by omega), w64 (by omega) (by omega), decide_eq_false (by omega), flaillaw05_SearchLongest.j1, if_neg (by simp)]
  exact run rows g ht a1 (by omega) p (by omega) top (by omega) n hn 300 _ 1 (by omega) (by omega) (by omega)
end Go.Proofs.Ytkcojbjnnonopaa.Pure
