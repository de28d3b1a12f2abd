/- Proved: what the printed function of the law NumberTold answers is true, for all arguments within the row's own bounds: over numbers and lists alone. No further conditions. -/
import Derived.Test.YtpcejdmhdjajcaaPx17
import Derived.Test.YtpcejdmhdjajcaaGM
namespace Go.Proofs.Ytpcejdmhdjajcaa.Pure
open Go.RowKit Go.Proofs.Ytpcejdmhdjajcaa.P Go.Proofs.Ytpcejdmhdjajcaa.G Go.Proofs.YtpcejdmhdjajcaaW.PrintWords Go.Proofs.YtpcejdmhdjajcaaW.PrintLast Go.Proofs.YtpcejdmhdjajcaaW.PrintMore
set_option linter.unusedVariables false
set_option linter.unusedSimpArgs false
theorem awake : flaillaw04_awake.f = some true := by decide +kernel
theorem tail (b : Bool) (x : Nat) (hx : x < 1114112) (t : ByteArray) (more : List UInt8) (ht : lb t = 35 :: (decL x ++ more)) (hm : more = [] ∨ more = [59]) : flaillaw04_NumberTold.j0 1 true (x : Int) t = some true := by
  have hl := decL_len x
  have hs : t.size = 1 + (decL x).length + more.length := by rw [size_lb, ht]; simp; omega
  have hml : more.length ≤ 1 := by rcases hm with h | h <;> rw [h] <;> simp
  have hr : numL (lb (t ++ (⟨#[60]⟩ : ByteArray))) 0 = (fixS (x : Int), (t.size : Int), true) := by
    have e : lb (t ++ (⟨#[60]⟩ : ByteArray)) = [] ++ (35 :: (decL x ++ (more ++ [60]))) := by rw [lb_append, ht]; simp [lb]
    have := numL_ten [] (decL x) (more ++ [60]) (decL_ok x) (decL_ne x) (by rcases hm with h | h <;> subst h <;> simp <;> decide)
    rw [e]
    refine this.trans ?_
    rw [decL_eval, Nat.min_eq_left (by omega), hs]
    rcases hm with h | h <;> subst h <;> simp <;> omega
  rw [flaillaw04_NumberTold.j0, if_pos (by omega), number_Read_o.f, if_pos ⟨by rw [ByteArray.size_append, show (⟨#[60]⟩ : ByteArray).size = 1 from rfl]; omega, by omega, by omega⟩, Option.bind_some, hr]
  simp only [if_true, flailref01_Sign_o.f, Option.bind_some, beq_self_eq_true]
  by_cases h0 : (x : Int) = 0
  · rw [if_pos h0]
  rw [if_neg h0]
  have hf : ¬ ((x : Int) ≥ 128 ∧ (x : Int) ≤ 159) → fixS (x : Int) = sgn x := by
    intro h; unfold fixS; rw [if_neg h0, if_neg (by omega)]
  by_cases h1 : (x : Int) ≥ 128
  · rw [if_pos h1]
    by_cases h2 : (x : Int) ≤ 159
    · rw [if_pos h2]
    · rw [if_neg h2, hf (by omega)]; simp
  · rw [if_neg h1, hf (by omega)]; simp
theorem NumberTold : flaillaw04_NumberTold.Pure := by
  intro a0 a1 h
  obtain ⟨h0, h1⟩ := wf_u32 h
  refine ⟨1, ?_⟩
  have e : wrap64 (Int.tmod a0 1114112) = ((a0.toNat % 1114112 : Nat) : Int) := by
    rw [Int.tmod_eq_emod_of_nonneg h0, w64 (by omega) (by omega)]; omega
  have hx : a0.toNat % 1114112 < 1114112 := Nat.mod_lt _ (by omega)
  rw [flaillaw04_NumberTold.f, awake, Option.bind_some, e]
  generalize a0.toNat % 1114112 = x at hx
  have hl := decL_len x
  rw [flailref01_Decimal_o.f, if_pos ⟨by omega, by omega⟩, Option.bind_some, Int.toNat_natCast, if_pos (by simp [lb_bs, bs_lb, toList_lb, lb_append, length_lb, size_bs, lb_mk, low_length, low_append, low_low, size_lowS, lb_lowS]; omega)]
  have s1 : ((⟨#[35]⟩ : ByteArray) ++ bs (decL x)).size = 1 + (decL x).length := by rw [ByteArray.size_append, show (⟨#[35]⟩ : ByteArray).size = 1 from rfl, size_bs]
  cases a1
  · rw [if_neg (by simp)]
    exact tail false x hx _ [] (by simp [lb_bs, bs_lb, toList_lb, lb_append, length_lb, size_bs, lb_mk, low_length, low_append, low_low, size_lowS, lb_lowS]) (.inl rfl)
  · rw [if_pos rfl, if_pos (by omega)]
    exact tail false x hx _ [59] (by simp [lb_bs, bs_lb, toList_lb, lb_append, length_lb, size_bs, lb_mk, low_length, low_append, low_low, size_lowS, lb_lowS]) (.inr rfl)
end Go.Proofs.Ytpcejdmhdjajcaa.Pure
