/- Proved: what the printed function of the law NamesBeyond answers is true, for all arguments within the row's own bounds: over numbers and lists alone. No further conditions. -/
import Derived.Test.YtgbgmjhnlmncnaaDoorPx11
import Derived.Test.YtgbgmjhnlmncnaaDoorGD
namespace Go.Proofs.YtgbgmjhnlmncnaaDoor.Pure
open Go.RowKit Go.Proofs.YtgbgmjhnlmncnaaDoor.P Go.Proofs.YtgbgmjhnlmncnaaDoor.G Go.Proofs.YtgbgmjhnlmncnaaDoorW.PrintWords Go.Proofs.YtgbgmjhnlmncnaaDoorW.PrintLast Go.Proofs.YtgbgmjhnlmncnaaDoorW.PrintMore
set_option linter.unusedVariables false
set_option linter.unusedSimpArgs false
theorem NamesBeyond : flaillaw06_NamesBeyond.Pure := by
  intro n a b hn ha hb
  have hn' := wf_u16 hn
  refine ⟨1, ?_⟩
  rw [flaillaw06_NamesBeyond.f, flaillaw06_awake.f, Option.bind_some]
  by_cases c1 : (a.size : Int) > 300
  · rw [if_pos c1, flaillaw06_NamesBeyond.j0, if_pos rfl]
  rw [if_neg c1]
  by_cases c2 : (300 : Int) < b.size
  · rw [decide_eq_true c2, flaillaw06_NamesBeyond.j0, if_pos rfl]
  rw [decide_eq_false c2, flaillaw06_NamesBeyond.j0, if_neg (by simp), w64 (by omega) (by omega), flailref06_Nth_o.f, if_pos hn', Option.bind_some]
  have hk := nthN_name n.toNat
  have hl := nthN_len n.toNat
  generalize nthN n.toNat = k at hk hl ⊢
  obtain ⟨p, c, rfl⟩ := snoc_of k (by omega)
  rw [List.length_append, List.length_singleton] at hl
  have sz : (bs (p ++ [c])).size = p.length + 1 := by rw [size_bs]; simp
  have s1 : (a ++ bs (p ++ [c])).size = a.size + (p.length + 1) := by rw [size_lb, lb_append, List.length_append, length_lb, length_lb, sz]
  have s2 : ((a ++ bs (p ++ [c])) ++ (⟨#[32]⟩ : ByteArray)).size = a.size + (p.length + 1) + 1 := by rw [size_lb, lb_append, List.length_append, length_lb, s1]; rfl
  have s3 : (((a ++ bs (p ++ [c])) ++ (⟨#[32]⟩ : ByteArray)) ++ b).size = a.size + (p.length + 1) + 1 + b.size := by rw [size_lb, lb_append, List.length_append, length_lb, length_lb, s2]
  have s4 : ((a ++ bs (p ++ [c])) ++ b).size = a.size + (p.length + 1) + b.size := by rw [size_lb, lb_append, List.length_append, length_lb, length_lb, s1]
  have e1 : longAt (lb (((a ++ bs (p ++ [c])) ++ (⟨#[32]⟩ : ByteArray)) ++ b)) (a.size : Int) = ((p.length + 1 : Nat) : Int) := by
    rw [longAt, length_lb, s3, if_pos (by omega), Int.toNat_natCast, lb_append, lb_append, lb_append, lb_bs, List.append_assoc, List.append_assoc, ← length_lb a, List.drop_left]
    congr 1
    have := longN_blank (p ++ [c]) (lb b) hk
    rw [List.length_append] at this
    exact this
  have e2 : ∃ m : Nat, longAt (lb ((a ++ bs (p ++ [c])) ++ b)) (a.size : Int) = (m : Int) ∧ p.length + 1 ≤ m ∧ (c = 59 → m = p.length + 1) := by
    refine ⟨longN (p ++ [c] ++ lb b), ?_, ?_, ?_⟩
    · rw [longAt, length_lb, s4, if_pos (by omega), Int.toNat_natCast, lb_append, lb_append, lb_bs, List.append_assoc, ← length_lb a, List.drop_left]
    · have := longN_name (p ++ [c]) (lb b) hk
      rw [List.length_append] at this; exact this
    · intro e; subst e
      exact longN_semi p (lb b) hk
  obtain ⟨m, e2, e3, e4⟩ := e2
  have hat : bt (bs (p ++ [c])) ((p.length : Int)) = (c.toNat : Int) := by rw [bt_bs_nat]; simp [at_]
  rw [sz, if_neg (by omega), if_pos (by omega), s1, if_pos (by omega), s2, if_pos (by omega), names_Longest_o.f, s3, if_pos (by omega), e1, Option.bind_some, w64 (by omega) (by omega), if_pos (by omega), if_pos (by omega), show ((p.length + 1 : Nat) : Int) - 1 = (p.length : Int) by omega, hat]
  by_cases h59 : (c.toNat : Int) = 59
  · rw [if_pos h59, if_pos rfl, if_pos rfl, if_pos (by omega), names_Longest_o.f, s4, if_pos (by omega), e2, e4 (u8_nat.1 (show c.toNat = (59 : UInt8).toNat by show c.toNat = 59; omega)), Option.bind_some]; simp
  · rw [if_neg h59, if_pos rfl, if_pos rfl, if_pos (by omega), names_Longest_o.f, s4, if_pos (by omega), e2, Option.bind_some, decide_eq_true (by omega)]
end Go.Proofs.YtgbgmjhnlmncnaaDoor.Pure
